import PyProof.Rows.All
import Wide.All
import OpenK.AllK
import Wide.FinOn
import PySem.Challenge.RW_zd0009_01
set_option Elab.async false

-- Base
namespace Mine
open PySem PySem.W PySem.Calls PyProof.Rows
section
local macro_rules | `(tactic| o_head $_) => `(tactic| assumption)
/-- its proof lays the kept part of the heap: hd.heap_1 -/
theorem hd (H : PySem.Challenge.rw_zd0009_01.row.Holds) : PySem.Challenge.rw_zd0009_01.row.Holds := by
  k_head
end

/-- what a helper answers, called by a def whose frame lies at L: the ledger grows by `tl`, all else stands -/
abbrev Spec (w : World) (p : Program) (loose : List Str) (mean : ExcName → Option Value) (mg mb : Str → Option Value) (d : Nat) (f : Addr) (news : List (Addr × Obj)) (vs : List Value) (Post : Value → List (Addr × Obj) → Prop) : Prop :=
  ∀ (dp un : Nat) (gd : Option (List Code)) (cn : Str) (cs : Scope) (a : Addr) (ccd : Value) (cl : List (Str × Addr)) (outer : List Env) (A₀ : Around) (base h₀ : Heap) (L : Addr) (m : Str → Option Value) (s : Shared) (Q E : Value → Shared → Prop),
    Below A₀ base outer h₀ → Fr h₀ L s.heap m → (hd.heap_1 w.params).In h₀ → News h₀ L s.heap news → Top p loose mean mg mb h₀ → cs.kind = .function → dp + d < recursionLimit → un + 10 * d + 100 < cLine →
    (∀ (r : Value) (tl : List (Addr × Obj)) (h' : Heap) (tk' : Nat), Fr h₀ L h' m → News h₀ L h' (tl ++ news) → Post r tl → Q r { s with heap := h', toks := tk' }) →
    wpAny (model PySem.Challenge.rw_zd0009_01.row.prog w) (ktrTop dp un gd cn cs L a ccd cl outer) (call (.ref f) vs) Q E s

theorem gen_toks {α : Type} {M : Model} {A : Around} {t : Sem α} {Q : α → Shared → Prop} {E : Value → Shared → Prop} {h : Heap} {g : Array GenState} {d : Drawn} {tk : Nat} {os : OsState} (H : ∀ tk, wpAny M A t Q E ⟨h, g, d, tk, os⟩) : wpAny M A t Q E ⟨h, g, d, tk, os⟩ := H tk
def Halt (P : Prop) : Prop := P
theorem Halt.of {P : Prop} (h : Halt P) : P := h
theorem sub_news {h₀ h : Heap} {L : Addr} {news news' : List (Addr × Obj)} (N : News h₀ L h news) (hs : ∀ p ∈ news', p ∈ news) : News h₀ L h news' := fun p hp => N p (hs p hp)
/-- an end that is named, so that the walk does not carry its text -/
def Hid {α : Type} (Q : α → Shared → Prop) : α → Shared → Prop := Q
def HidLe {α : Type} (Q Q' : α → Shared → Prop) : Prop := ∀ x s, Q x s → Q' x s
theorem hideQ {α : Type} {M : Model} {A : Around} {t : Sem α} {Q : α → Shared → Prop} {E : Value → Shared → Prop} {s : Shared} (h : ∀ (Q' : α → Shared → Prop), HidLe Q Q' → wpAny M A t (Hid Q') E s) : wpAny M A t Q E s := h Q (fun _ _ x => x)
theorem unhide {α : Type} {Q Q' : α → Shared → Prop} {x : α} {s : Shared} (h : HidLe Q Q') (q : Q x s) : Hid Q' x s := h x s q
/-- one ledger's rows are among another's -/
def Sub (B A : List (Addr × Obj)) : Prop := ∀ q ∈ B, q ∈ A
theorem Sub.self (A : List (Addr × Obj)) : Sub A A := fun _ h => h
theorem Sub.cons {p : Addr × Obj} {B A : List (Addr × Obj)} (h : p ∈ A) (r : Sub B A) : Sub (p :: B) A := List.forall_mem_cons.mpr ⟨h, r⟩
theorem Sub.tail {p : Addr × Obj} {B A : List (Addr × Obj)} (r : Sub B A) : Sub B (p :: A) := fun q hq => List.mem_cons_of_mem _ (r q hq)
theorem Sub.app {R X Y : List (Addr × Obj)} (r : Sub X Y) : Sub (R ++ X) (R ++ Y) := fun q hq => (List.mem_append.mp hq).elim (fun h => List.mem_append_left _ h) fun h => List.mem_append_right _ (r q h)
theorem Sub.right {R X Y : List (Addr × Obj)} (r : Sub X Y) : Sub X (R ++ Y) := fun q hq => List.mem_append_right _ (r q hq)
theorem Sub.both {X Y A : List (Addr × Obj)} (a : Sub X A) (b : Sub Y A) : Sub (X ++ Y) A := fun q hq => (List.mem_append.mp hq).elim (a q) (b q)
theorem Sub.nil {A : List (Addr × Obj)} : Sub [] A := fun _ h => nomatch h
theorem sub_news' {h₀ h : Heap} {L : Addr} {news news' : List (Addr × Obj)} (N : News h₀ L h news) (hs : Sub news' news) : News h₀ L h news' := fun p hp => N p (hs p hp)
theorem all_cons {α : Type} {P : α → Prop} {x : α} {l : List α} (a : P x) (b : ∀ p ∈ l, P p) : ∀ p ∈ x :: l, P p := List.forall_mem_cons.mpr ⟨a, b⟩
theorem all_app {α : Type} {P : α → Prop} {X Y : List α} (a : ∀ p ∈ X, P p) (b : ∀ p ∈ Y, P p) : ∀ p ∈ X ++ Y, P p := fun p hp => (List.mem_append.mp hp).elim (a p) (b p)
theorem all_sub {P : Addr × Obj → Prop} {B A : List (Addr × Obj)} (r : Sub B A) (a : ∀ p ∈ A, P p) : ∀ p ∈ B, P p := fun p hp => a p (r p hp)
/-- what holds of the addresses holds of another ledger with the same ones -/
theorem all_fst {P : Addr → Prop} {B A : List (Addr × Obj)} (e : B.map Prod.fst = A.map Prod.fst) (a : ∀ p ∈ A, P p.1) : ∀ p ∈ B, P p.1 := fun p hp => by
  have h : p.1 ∈ A.map Prod.fst := e ▸ List.mem_map_of_mem hp
  obtain ⟨q, hq, hqe⟩ := List.mem_map.mp h
  exact hqe ▸ a q hq
end Mine

-- Util
theorem Mine.gap_Util : True ∧ True := by w_top off; walk1 <;> trivial
namespace Mine
open PySem PySem.W PySem.Calls PyProof.Rows
theorem Sub.left {R Y : List (Addr × Obj)} : Sub R (R ++ Y) := fun _ hq => List.mem_append_left _ hq
/-- the rows at the places is, then what lies behind the k-th -/
theorem Sub.pick {A : List (Addr × Obj)} (is : List Nat) (k : Nat) {B : List (Addr × Obj)} (h : B = is.filterMap (fun i => A[i]?) ++ A.drop k) : Sub B A := by
  subst h
  refine Sub.both (fun q hq => ?_) fun q hq => List.mem_of_mem_drop hq
  obtain ⟨i, _, hi⟩ := List.mem_filterMap.mp hq
  exact List.mem_of_getElem? hi
theorem small_nat {a b : Nat} (ha : a < 1000) (hb : b < 1000) : Builtin.Range.small (a : Int) (b : Int) 1 = true := small_one (by omega) (by omega) (by omega) (by omega)
theorem size_nat (a b : Nat) : Builtin.Range.rangeSize (a : Int) (b : Int) 1 = ((b - a : Nat) : Int) := by rw [rangeSize_nat, Int.toNat_sub]
theorem room_of {dp d k d' r : Nat} (h : dp + d < r) (e : k + d' ≤ d) : dp + k + d' < r := Nat.lt_of_le_of_lt (Nat.add_assoc dp k d' ▸ Nat.add_le_add_left e dp) h
theorem room_of2 {dp d k j d' r : Nat} (h : dp + d < r) (e : k + j + d' ≤ d) : dp + k + j + d' < r := Nat.add_assoc dp k j ▸ room_of h e
theorem units_of {un d k d' r : Nat} (h : un + 10 * d + 100 < r) (e : k + 10 * d' ≤ 10 * d) : un + k + 10 * d' + 100 < r := Nat.lt_of_le_of_lt (Nat.add_le_add_right (Nat.add_assoc un k (10 * d') ▸ Nat.add_le_add_left e un) 100) h
theorem units_of2 {un d k j d' r : Nat} (h : un + 10 * d + 100 < r) (e : k + j + 10 * d' ≤ 10 * d) : un + k + j + 10 * d' + 100 < r := Nat.add_assoc un k j ▸ units_of h e
theorem units_at {un d k j r : Nat} (h : un + 10 * d + 100 < r) (e : k + j ≤ 10 * d + 100) : un + k + j < r := Nat.lt_of_le_of_lt (Nat.add_assoc un k j ▸ Nat.add_le_add_left e un) (Nat.add_assoc un (10 * d) 100 ▸ h)
theorem M0 {α : Type} {x : α} {l : List α} : x ∈ x :: l := List.mem_cons_self
theorem M1 {α : Type} {a x : α} {l : List α} : x ∈ a :: x :: l := List.mem_cons_of_mem _ (List.mem_cons_self)
theorem M2 {α : Type} {a b x : α} {l : List α} : x ∈ a :: b :: x :: l := List.mem_cons_of_mem _ (List.mem_cons_of_mem _ (List.mem_cons_self))
theorem M3 {α : Type} {a b c x : α} {l : List α} : x ∈ a :: b :: c :: x :: l := List.mem_cons_of_mem _ (List.mem_cons_of_mem _ (List.mem_cons_of_mem _ (List.mem_cons_self)))
theorem M4 {α : Type} {a b c d x : α} {l : List α} : x ∈ a :: b :: c :: d :: x :: l := List.mem_cons_of_mem _ (List.mem_cons_of_mem _ (List.mem_cons_of_mem _ (List.mem_cons_of_mem _ (List.mem_cons_self))))
theorem M5 {α : Type} {a b c d e x : α} {l : List α} : x ∈ a :: b :: c :: d :: e :: x :: l := List.mem_cons_of_mem _ (List.mem_cons_of_mem _ (List.mem_cons_of_mem _ (List.mem_cons_of_mem _ (List.mem_cons_of_mem _ (List.mem_cons_self)))))
theorem M6 {α : Type} {a b c d e f x : α} {l : List α} : x ∈ a :: b :: c :: d :: e :: f :: x :: l := List.mem_cons_of_mem _ (List.mem_cons_of_mem _ (List.mem_cons_of_mem _ (List.mem_cons_of_mem _ (List.mem_cons_of_mem _ (List.mem_cons_of_mem _ (List.mem_cons_self))))))
theorem M7 {α : Type} {a b c d e f g x : α} {l : List α} : x ∈ a :: b :: c :: d :: e :: f :: g :: x :: l := List.mem_cons_of_mem _ (List.mem_cons_of_mem _ (List.mem_cons_of_mem _ (List.mem_cons_of_mem _ (List.mem_cons_of_mem _ (List.mem_cons_of_mem _ (List.mem_cons_of_mem _ (List.mem_cons_self)))))))
theorem M8 {α : Type} {a b c d e f g i x : α} {l : List α} : x ∈ a :: b :: c :: d :: e :: f :: g :: i :: x :: l := List.mem_cons_of_mem _ (List.mem_cons_of_mem _ (List.mem_cons_of_mem _ (List.mem_cons_of_mem _ (List.mem_cons_of_mem _ (List.mem_cons_of_mem _ (List.mem_cons_of_mem _ (List.mem_cons_of_mem _ (List.mem_cons_self))))))))
theorem U1 {α : Type} {a x : α} {l : List α} (h : x ∈ l) : x ∈ a :: l := List.mem_cons_of_mem _ (h)
theorem U2 {α : Type} {a b x : α} {l : List α} (h : x ∈ l) : x ∈ a :: b :: l := List.mem_cons_of_mem _ (List.mem_cons_of_mem _ (h))
theorem U3 {α : Type} {a b c x : α} {l : List α} (h : x ∈ l) : x ∈ a :: b :: c :: l := List.mem_cons_of_mem _ (List.mem_cons_of_mem _ (List.mem_cons_of_mem _ (h)))
theorem U4 {α : Type} {a b c d x : α} {l : List α} (h : x ∈ l) : x ∈ a :: b :: c :: d :: l := List.mem_cons_of_mem _ (List.mem_cons_of_mem _ (List.mem_cons_of_mem _ (List.mem_cons_of_mem _ (h))))
theorem U5 {α : Type} {a b c d e x : α} {l : List α} (h : x ∈ l) : x ∈ a :: b :: c :: d :: e :: l := List.mem_cons_of_mem _ (List.mem_cons_of_mem _ (List.mem_cons_of_mem _ (List.mem_cons_of_mem _ (List.mem_cons_of_mem _ (h)))))
theorem U6 {α : Type} {a b c d e f x : α} {l : List α} (h : x ∈ l) : x ∈ a :: b :: c :: d :: e :: f :: l := List.mem_cons_of_mem _ (List.mem_cons_of_mem _ (List.mem_cons_of_mem _ (List.mem_cons_of_mem _ (List.mem_cons_of_mem _ (List.mem_cons_of_mem _ (h))))))
theorem U7 {α : Type} {a b c d e f g x : α} {l : List α} (h : x ∈ l) : x ∈ a :: b :: c :: d :: e :: f :: g :: l := List.mem_cons_of_mem _ (List.mem_cons_of_mem _ (List.mem_cons_of_mem _ (List.mem_cons_of_mem _ (List.mem_cons_of_mem _ (List.mem_cons_of_mem _ (List.mem_cons_of_mem _ (h)))))))
theorem U8 {α : Type} {a b c d e f g i x : α} {l : List α} (h : x ∈ l) : x ∈ a :: b :: c :: d :: e :: f :: g :: i :: l := List.mem_cons_of_mem _ (List.mem_cons_of_mem _ (List.mem_cons_of_mem _ (List.mem_cons_of_mem _ (List.mem_cons_of_mem _ (List.mem_cons_of_mem _ (List.mem_cons_of_mem _ (List.mem_cons_of_mem _ (h))))))))
theorem mid {α : Type} {a x : α} {R Y : List α} (h : x ∈ Y) : x ∈ a :: (R ++ Y) := List.mem_cons_of_mem _ (List.mem_append_right _ h)
theorem mid2 {α : Type} {a b x : α} {R Y : List α} (h : x ∈ Y) : x ∈ a :: b :: (R ++ Y) := List.mem_cons_of_mem _ (mid h)
theorem mid3 {α : Type} {a b c x : α} {R Y : List α} (h : x ∈ Y) : x ∈ a :: b :: c :: (R ++ Y) := List.mem_cons_of_mem _ (mid2 h)
end Mine

-- FFlag
theorem Mine.gap_FFlag : True ∧ True := by w_top off; walk1 <;> trivial
namespace Mine
open PySem PySem.W PySem.Calls PyProof.Rows
set_option maxRecDepth 100000
def flagNames : List Str := [Str.ofString "OPTIMIZED", Str.ofString "NEWLOCALS", Str.ofString "VARARGS", Str.ofString "VARKEYWORDS", Str.ofString "NESTED", Str.ofString "GENERATOR", Str.ofString "NOFREE", Str.ofString "COROUTINE", Str.ofString "ITERABLE_COROUTINE", Str.ofString "ASYNC_GENERATOR"]
/-- the name of the flag whose place is v -/
def FN (v : Int) : Str := if v < 10 then flagNames.getD v.toNat Str.empty else Str.ofString "0x" ++ Txt.item (Str.ofString "1248") (v.fmod 4) ++ Txt.mul (Str.ofString "0") (v.fdiv 4)
set_option maxHeartbeats 4000000 in
theorem flag_spec (w : World) (p : Program) (loose : List Str) (mean : ExcName → Option Value) (mg mb : Str → Option Value) (v : Int) (t : Tok) (news : List (Addr × Obj)) (h0 : 0 ≤ v) (h1 : v < 32) :
    Spec w p loose mean mg mb 1 125 news [.int v t] (fun r tl => tl = [] ∧ ∃ t', r = .str (FN v) t') := by
  unfold Spec
  k_fill
  intro dp un gd cn cs a ccd cl outer A₀ base h₀ L m s Q E B F X N T hk hdp hun hret
  have hdp' : dp + 1 < recursionLimit := by omega
  refine wpAny_call ?_
  k_dflt cell_enter
  k_steps
  · refine hret _ [] _ _ (by assumption) (sub_news (by assumption) (fun p hp => by repeat (first | exact hp | apply List.mem_cons_of_mem))) ⟨rfl, ?_⟩
    rw [FN, if_pos (by assumption)]; exact ⟨_, rfl⟩
  · refine add_str ?_ ?_
    · intro t' tk'
      k_steps
      refine hret _ [] _ _ (by assumption) (sub_news (by assumption) (fun p hp => by repeat (first | exact hp | apply List.mem_cons_of_mem))) ⟨rfl, ?_⟩
      rw [FN, if_neg (by first | assumption | omega)]; exact ⟨_, rfl⟩
    · have e1 : ((Txt.mul (Str.ofString "0") (v.fdiv 4)).length : Int) ≤ 40 := by
        rw [len_mul]
        have e2 : ((Str.ofString "0").length : Int) = 1 := by decide +kernel
        rw [e2]
        have e5 : v.fdiv 4 < 8 := by rw [Int.fdiv_eq_ediv_of_nonneg _ (by decide)]; omega
        split <;> omega
      have e3 : (Str.ofString "0x" ++ Txt.item (Str.ofString "1248") (v.fmod 4)).length = 3 := by
        rw [Str.length_append]; rfl
      rw [sizeLine_eq]
      rw [e3]
      omega
end Mine

-- FTied
theorem Mine.gap_FTied : True ∧ True := by w_top off; walk1 <;> trivial
namespace Mine
open PySem PySem.W PySem.Calls PyProof.Rows
set_option maxRecDepth 100000
/-- the sign of a tie -/
def sgn (b : Bool) : Nat := if b then 120 else 32
/-- a text of marks and blanks -/
def txt (bs : List Bool) : Str := ⟨(bs.map sgn).toArray⟩
theorem txt_length (bs : List Bool) : (txt bs).length = bs.length := by
  show ((bs.map sgn).toArray).size = _
  simp
def tieIdx (n i j : Nat) : Nat := n - max i j * (max i j + 1) / 2 + min i j
/-- are i and j tied? -/
def tb (bs : List Bool) (i j : Nat) : Bool := bs.getD (tieIdx bs.length i j) false
/-- the sizes at hand -/
def Sz (n p : Nat) : Prop := (n = 3 ∧ p = 3) ∨ (n = 10 ∧ p = 5)
theorem sz_lt {n p : Nat} (h : Sz n p) : p < 6 := by rcases h with ⟨_, rfl⟩ | ⟨_, rfl⟩ <;> decide
theorem sz_pos {n p : Nat} (h : Sz n p) : 1 ≤ p := by rcases h with ⟨_, rfl⟩ | ⟨_, rfl⟩ <;> decide
theorem sz_len {n p : Nat} (h : Sz n p) : n ≤ 10 := by rcases h with ⟨rfl, _⟩ | ⟨rfl, _⟩ <;> decide
theorem tie_idx {n p i j : Nat} (h : Sz n p) (hi : i < p) (hj : j < p) (hn : i ≠ j) :
    ((n : Int) - ((if (j : Int) > (i : Int) then (j : Int) else (i : Int)) * ((if (j : Int) > (i : Int) then (j : Int) else (i : Int)) + 1)).fdiv 2 + (if (j : Int) < (i : Int) then (j : Int) else (i : Int)) = (tieIdx n i j : Int)) ∧ tieIdx n i j < n := by
  rcases h with ⟨rfl, rfl⟩ | ⟨rfl, rfl⟩
  · have : ∀ i : Fin 3, ∀ j : Fin 3, i.val ≠ j.val → ((3 : Int) - ((if (j.val : Int) > (i.val : Int) then (j.val : Int) else (i.val : Int)) * ((if (j.val : Int) > (i.val : Int) then (j.val : Int) else (i.val : Int)) + 1)).fdiv 2 + (if (j.val : Int) < (i.val : Int) then (j.val : Int) else (i.val : Int)) = (tieIdx 3 i.val j.val : Int)) ∧ tieIdx 3 i.val j.val < 3 := by decide +kernel
    exact this ⟨i, hi⟩ ⟨j, hj⟩ hn
  · have : ∀ i : Fin 5, ∀ j : Fin 5, i.val ≠ j.val → ((10 : Int) - ((if (j.val : Int) > (i.val : Int) then (j.val : Int) else (i.val : Int)) * ((if (j.val : Int) > (i.val : Int) then (j.val : Int) else (i.val : Int)) + 1)).fdiv 2 + (if (j.val : Int) < (i.val : Int) then (j.val : Int) else (i.val : Int)) = (tieIdx 10 i.val j.val : Int)) ∧ tieIdx 10 i.val j.val < 10 := by decide +kernel
    exact this ⟨i, hi⟩ ⟨j, hj⟩ hn
theorem txt_item (bs : List Bool) (k : Nat) (hk : k < bs.length) : Txt.item (txt bs) (k : Int) = ⟨#[sgn (bs.getD k false)]⟩ := by
  have e : (txt bs).cps = (bs.map sgn).toArray := rfl
  have e2 : Txt.charAt (txt bs) (k : Int) = some (sgn (bs.getD k false)) := by
    unfold Txt.charAt
    rw [txt_length]
    have h0 : ¬ ((k : Int) < 0) := by omega
    have h2 : (k : Int) < (bs.length : Int) := by omega
    have h3 : (0 : Int) ≤ (k : Int) := by omega
    simp [seqIndex?, e, hk, List.getD_eq_getElem?_getD, h0, h2, h3]
  rw [Txt.item, e2]; rfl
set_option maxHeartbeats 4000000 in
theorem tied_spec (w : World) (p : Program) (loose : List Str) (mean : ExcName → Option Value) (mg mb : Str → Option Value) (bs : List Bool) (n i j : Nat) (t t1 t2 : Tok) (news : List (Addr × Obj)) (hz : Sz bs.length n) (hi : i < n) (hj : j < n) (hn : i ≠ j) :
    Spec w p loose mean mg mb 1 137 news [.str (txt bs) t, .int (i : Int) t1, .int (j : Int) t2] (fun r tl => tl = [] ∧ r = .bool (tb bs i j)) := by
  unfold Spec
  k_fill
  intro dp un gd cn cs a ccd cl outer A₀ base h₀ L m s Q E B F X N T hk hdp hun hret
  have hdp' : dp + 1 < recursionLimit := hdp
  obtain ⟨he, hlt⟩ := tie_idx hz hi hj hn
  have hl := txt_length bs
  have hb : bs.length ≤ 10 := sz_len hz
  have hn5 : n ≤ 5 := Nat.le_of_lt_succ (sz_lt hz)
  have b1 : (0 : Int) ≤ (i : Int) := Int.natCast_nonneg i
  have b2 : (i : Int) < 5 := Int.ofNat_lt.mpr (Nat.lt_of_lt_of_le hi hn5)
  have b3 : (0 : Int) ≤ (j : Int) := Int.natCast_nonneg j
  have b4 : (j : Int) < 5 := Int.ofNat_lt.mpr (Nat.lt_of_lt_of_le hj hn5)
  refine wpAny_call ?_
  k_dflt cell_enter
  k_steps
  refine hret _ [] _ _ (by assumption) (by assumption) ⟨rfl, ?_⟩
  rw [hl, he, txt_item bs _ hlt, tb]
  cases bs.getD (tieIdx bs.length i j) false <;> decide +kernel
end Mine

-- Comp
theorem Mine.gap_Comp : True ∧ True := by w_top off; walk1 <;> trivial
namespace Mine
open PySem PySem.W PySem.Calls PyProof.Rows
section
variable {prog : Program} {w : World} {A : Around} {s : Shared} {h₀ : Heap} {L : Addr} {m : Str → Option Value} {env : Env}
theorem CompEnd.mono {I C D : Addr} {s₁ : Shared} {oI oC oD : Obj} {S : List (Addr × Obj) → Prop} {rest rest' : Value → List (Addr × Obj) → Prop} {y : Value} {s₂ : Shared}
    (h : LCg.CompEnd h₀ L m s₁ I oI C oC D oD S rest y s₂) (k : ∀ n, rest y n → rest' y n) : LCg.CompEnd h₀ L m s₁ I oI C oC D oD S rest' y s₂ := by
  obtain ⟨h', tk, news', e, F, N, o, hS, r⟩ := h
  exact ⟨h', tk, news', e, F, N, o, hS, k _ r⟩
theorem CompEnd.mono' {I C D : Addr} {s₁ : Shared} {oI oC oD : Obj} {S : List (Addr × Obj) → Prop} {rest rest' : Value → List (Addr × Obj) → Prop} {y : Value} {s₂ : Shared}
    (h : LCg.CompEnd h₀ L m s₁ I oI C oC D oD S rest y s₂) (k : ∀ n, rest y n → rest' y n) : LCg.CompEnd h₀ L m s₁ I oI C oC D oD S rest' y s₂ := CompEnd.mono h k
theorem CompRest.inv {elt : Expr} {x : Str} {scope : Scope} {cl : List (Str × Addr)} {S : List (Addr × Obj) → Prop} {P : Nat → Value → Prop} {Fin : List Value → List (Addr × Obj) → Prop} (n : Nat) (J : Nat → List Value → List (Addr × Obj) → Prop)
    (fin : ∀ ys news, J n ys news → Fin ys news)
    (step : ∀ i ys news v I oI C oC D m₂ h tk (E' : Value → Shared → Prop), i < n → J i ys news → P i v → LCg.NsObj oC m₂ → m₂ x = some v → Fr h₀ L h m → News h₀ L h ((I, oI) :: (C, oC) :: (D, LCg.lst ys) :: news) → LCg.Off3 I C D news → ((@Ne Nat I C) ∧ (@Ne Nat I D) ∧ (@Ne Nat C D)) →
      wpAny (model prog w) A (eval elt (compEnvC scope cl C env)) (LCg.CompEnd h₀ L m { s with heap := h, toks := tk } I oI C oC D (LCg.lst ys) S (fun y news' => J (i + 1) (ys ++ [y]) news')) E' { s with heap := h, toks := tk }) :
    ∀ k i ys news, i + k = n → J i ys news → LCg.CompRest prog w A h₀ L m env elt x scope cl s S P Fin k i ys news := by
  intro k
  induction k with
  | zero => intro i ys news e j; obtain rfl : i = n := by omega
            exact fin _ _ j
  | succ k ih =>
    intro i ys news e j
    refine LCg.CompRest.succ fun v I oI C oC D m₂ h tk E' hP hC hx F N off ne => ?_
    exact wpAny_mono (step i ys news v I oI C oC D m₂ h tk E' (by omega) j hP hC hx F N off ne) (fun y s₄ h₄ => CompEnd.mono h₄ fun n' r => ih _ _ _ (by omega) r) fun _ _ e => e
theorem CompRestT.inv {ct elt : Expr} {x : Str} {scope : Scope} {cl : List (Str × Addr)} {S : List (Addr × Obj) → Prop} {P : Nat → Value → Prop} {Fin : List Value → List (Addr × Obj) → Prop} (n : Nat) (J : Nat → List Value → List (Addr × Obj) → Prop)
    (fin : ∀ ys news, J n ys news → Fin ys news)
    (step : ∀ i ys news v I oI C oC D m₂ h tk (E' : Value → Shared → Prop), i < n → J i ys news → P i v → LCg.NsObj oC m₂ → m₂ x = some v → Fr h₀ L h m → News h₀ L h ((I, oI) :: (C, oC) :: (D, LCg.lst ys) :: news) → LCg.Off3 I C D news → ((@Ne Nat I C) ∧ (@Ne Nat I D) ∧ (@Ne Nat C D)) →
      wpAny (model prog w) A (isTrue ct (compEnvC scope cl C env) (eval ct (compEnvC scope cl C env))) (fun ok s' => if ok = true then
        wpAny (model prog w) A (eval elt (compEnvC scope cl C env)) (LCg.CompEnd h₀ L m { s with heap := h, toks := tk } I oI C oC D (LCg.lst ys) S (fun y news' => J (i + 1) (ys ++ [y]) news')) E' s'
        else LCg.CompEnd h₀ L m { s with heap := h, toks := tk } I oI C oC D (LCg.lst ys) S (fun _ news' => J (i + 1) ys news') Value.none s') E' { s with heap := h, toks := tk }) :
    ∀ k i ys news, i + k = n → J i ys news → LCt.CompRestT prog w A h₀ L m env ct elt x scope cl s S P Fin k i ys news := by
  intro k
  induction k with
  | zero => intro i ys news e j; obtain rfl : i = n := by omega
            exact fin _ _ j
  | succ k ih =>
    intro i ys news e j
    refine LCt.CompRestT.succ fun v I oI C oC D m₂ h tk E' hP hC hx F N off ne => ?_
    refine wpAny_mono (step i ys news v I oI C oC D m₂ h tk E' (by omega) j hP hC hx F N off ne) (fun ok s₄ h₄ => ?_) fun _ _ e => e
    cases ok with
    | true =>
      simp only [if_true] at h₄ ⊢
      exact wpAny_mono h₄ (fun y s₅ h₅ => CompEnd.mono h₅ fun n' r => ih _ _ _ (by omega) r) fun _ _ e => e
    | false =>
      simp only [Bool.false_eq_true, if_false] at h₄ ⊢
      exact CompEnd.mono h₄ fun n' r => ih _ _ _ (by omega) r
end
theorem off_head {a I : Addr} {o : Obj} (o' : Obj) {r : List (Addr × Obj)} (h : ∀ p ∈ (a, o) :: r, p.1 ≠ I) : ∀ p ∈ (a, o') :: r, p.1 ≠ I :=
  List.forall_mem_cons.mpr ⟨h (a, o) List.mem_cons_self, fun p hp => h p (List.mem_cons_of_mem _ hp)⟩
theorem off_eq {m₁ m₀ : Str → Option Value} (st : List Str) (h : ∀ z, st.contains z = false → m₁ z = m₀ z) : m₁ = fun z => if st.contains z then m₁ z else m₀ z := by
  funext z
  cases e : st.contains z with
  | true => rfl
  | false => exact h z e
theorem ints_snoc {us : List Value} {xs : List Int} (h : IntsAre us xs) (y : Int) (t : Tok) : IntsAre (us ++ [.int y t]) (xs ++ [y]) := h.append (.cons y t .nil)
abbrev loc (l : List (Str × Value)) : Str → Option Value := fun y => l.lookup y
theorem strs_snoc {us : List Value} {xs : List Str} (h : StrsAre us xs) (y : Str) (t : Tok) : StrsAre (us ++ [.str y t]) (xs ++ [y]) := by
  induction h with
  | nil => exact .cons y t .nil
  | cons z u _ ih => exact .cons z u ih
end Mine

-- Loop
theorem Mine.gap_Loop : True ∧ True := by w_top off; walk1 <;> trivial
namespace Mine
open PySem PySem.W PySem.Calls PyProof.Rows
/-- what a turn leaves that goes on -/
def GoM (h₀ : Heap) (L I : Addr) (oI : Obj) (S : List (Addr × Obj) → Prop) (J : (Str → Option Value) → List (Addr × Obj) → Array GenState → Prop) (s₁ s' : Shared) : Prop :=
  ∃ h tk g m' news', s' = { s₁ with heap := h, toks := tk, gens := g } ∧ Fr h₀ L h m' ∧ News h₀ L h ((I, oI) :: news') ∧ (∀ p ∈ news', p.1 ≠ I) ∧ S news' ∧ J m' news' g
/-- where a loop stands -/
inductive LMI (h₀ : Heap) (L I : Addr) (n : Nat) (St : Nat → Heap → Prop) (S : List (Addr × Obj) → Prop) (J : Nat → (Str → Option Value) → List (Addr × Obj) → Array GenState → Prop) (s : Shared) : Nat → Shared → Prop
  | mk (h : Heap) (tk : Nat) (g : Array GenState) (m' : Str → Option Value) (news' : List (Addr × Obj)) (i : Nat) (st : St i h) (F : Fr h₀ L h m') (N : News h₀ L h news') (off : ∀ p ∈ news', p.1 ≠ I) (hS : S news') (hJ : J i m' news' g) (hi : i ≤ n) : LMI h₀ L I n St S J s (n + 1 - i) { s with heap := h, toks := tk, gens := g }
/-- where a turn of a loop ends -/
def Turn (h₀ : Heap) (L I : Addr) (oI : Obj) (S : List (Addr × Obj) → Prop) (J : (Str → Option Value) → List (Addr × Obj) → Array GenState → Prop) (s₁ : Shared) (Q : Flow → Shared → Prop) (f : Flow) (s' : Shared) : Prop :=
  match f with
  | .ret v => Q (.ret v) s'
  | .brk => Q .next s'
  | _ => GoM h₀ L I oI S J s₁ s'
theorem Turn.next {h₀ : Heap} {L I : Addr} {oI : Obj} {S : List (Addr × Obj) → Prop} {J : (Str → Option Value) → List (Addr × Obj) → Array GenState → Prop} {s₁ : Shared} {Q : Flow → Shared → Prop} {m' : Str → Option Value} (news' : List (Addr × Obj)) {all : List (Addr × Obj)} {h : Heap} {tk : Nat} {g : Array GenState}
    (F : Fr h₀ L h m') (N : News h₀ L h all) (sub : ∀ p ∈ (I, oI) :: news', p ∈ all) (off : ∀ p ∈ news', p.1 ≠ I) (hS : S news') (j : J m' news' g) : Turn h₀ L I oI S J s₁ Q .next { s₁ with heap := h, toks := tk, gens := g } :=
  ⟨h, tk, g, m', news', rfl, F, fun p hp => N p (sub p hp), off, hS, j⟩
theorem Turn.cont {h₀ : Heap} {L I : Addr} {oI : Obj} {S : List (Addr × Obj) → Prop} {J : (Str → Option Value) → List (Addr × Obj) → Array GenState → Prop} {s₁ : Shared} {Q : Flow → Shared → Prop} {m' : Str → Option Value} (news' : List (Addr × Obj)) {all : List (Addr × Obj)} {h : Heap} {tk : Nat} {g : Array GenState}
    (F : Fr h₀ L h m') (N : News h₀ L h all) (sub : ∀ p ∈ (I, oI) :: news', p ∈ all) (off : ∀ p ∈ news', p.1 ≠ I) (hS : S news') (j : J m' news' g) : Turn h₀ L I oI S J s₁ Q .cont { s₁ with heap := h, toks := tk, gens := g } :=
  ⟨h, tk, g, m', news', rfl, F, fun p hp => N p (sub p hp), off, hS, j⟩
theorem Turn.ret {h₀ : Heap} {L I : Addr} {oI : Obj} {S : List (Addr × Obj) → Prop} {J : (Str → Option Value) → List (Addr × Obj) → Array GenState → Prop} {s₁ s' : Shared} {Q : Flow → Shared → Prop} {v : Value} (h : Q (.ret v) s') : Turn h₀ L I oI S J s₁ Q (.ret v) s' := h
theorem Turn.brk {h₀ : Heap} {L I : Addr} {oI : Obj} {S : List (Addr × Obj) → Prop} {J : (Str → Option Value) → List (Addr × Obj) → Array GenState → Prop} {s₁ s' : Shared} {Q : Flow → Shared → Prop} (h : Q .next s') : Turn h₀ L I oI S J s₁ Q .brk s' := h
section
variable {prog : Program} {w : World} {A : Around} {s : Shared} {h₀ : Heap} {m : Str → Option Value} {env : Env}
/-- a loop about to take its iterable -/
def LoopTo (prog : Program) (w : World) (A : Around) (env : Env) (target : Expr) (body orelse : List Stmt) (Q : Flow → Shared → Prop) (E : Value → Shared → Prop) (xv : Value) (s₁ : Shared) : Prop :=
  wpAny (model prog w) A (pyIter xv) (fun it s₂ => codeAny (model prog w) A (.forLoop target it body orelse env) (fun r s' => match r with | .ok f => Q f s' | .error e => cameBackBy (model prog w) A env E e s') s₂) E s₁
theorem For_to {target iter : Expr} {body orelse : List Stmt} {pos : Pos} {Q : Flow → Shared → Prop} {E : Value → Shared → Prop} (h : wpAny (model prog w) A (eval iter env) (LoopTo prog w A env target body orelse Q E) E s)
    (hs : ∀ x, foldedSetIterable iter env x = pure x := by intro _; rfl) : wpAny (model prog w) A (exec (.For target iter body orelse pos) env) Q E s := wpAny_For h hs
theorem loop_my {Q : Flow → Shared → Prop} {E : Value → Shared → Prop} {target : Expr} {body orelse : List Stmt} {I : Addr} {fp : List Addr} {n : Nat} {P : Nat → Value → Prop} {St : Nat → Heap → Prop} {S : List (Addr × Obj) → Prop} {news : List (Addr × Obj)}
    (W : Walks prog w A I fp [I] n P St) (hIo : ∀ i h, St i h → ∃ o, h.get? I = some o)
    (hSt : ∀ i h h' o nw, St i h → h.get? I = some o → h'.get? I = some o → (∀ b o, h₀.get? b = some o → h'.get? b = some o) → News h₀ env.locals h' nw → S nw → St i h')
    (hE : PassesOwn (model prog w) A env E) (hst : St 0 s.heap)
    (F : Fr h₀ env.locals s.heap m) (N : News h₀ env.locals s.heap news) (hIL : env.locals ≠ I) (hI₀ : h₀.get? I = none) (off : ∀ p ∈ news, p.1 ≠ I) (hS : S news)
    (J : Nat → (Str → Option Value) → List (Addr × Obj) → Array GenState → Prop) (h0 : J 0 m news s.gens)
    (step : ∀ i v oI m₁ news₁ h tk g, i < n → P i v → J i m₁ news₁ g → S news₁ → (∀ p ∈ news₁, p.1 ≠ I) → Fr h₀ env.locals h m₁ → News h₀ env.locals h ((I, oI) :: news₁) →
      wpAny (model prog w) A (assign target env v) (fun _ s' => wpAny (model prog w) A (execs body env) (Turn h₀ env.locals I oI S (J (i + 1)) s Q) E s') E { s with heap := h, toks := tk, gens := g })
    (done : ∀ h tk g m' news', J n m' news' g → S news' → Fr h₀ env.locals h m' → News h₀ env.locals h news' → wpAny (model prog w) A (execs orelse env) Q E { s with heap := h, toks := tk, gens := g })
    (ht : ∀ v, letOwnedTupleGo target (.ref I) v = pure () := by intro _; rfl) :
    codeAny (model prog w) A (.forLoop target (.ref I) body orelse env) (fun r s' => match r with | .ok f => Q f s' | .error e => cameBackBy (model prog w) A env E e s') s := by
  refine codeAny_forLoop (LMI h₀ env.locals I n St S J s) ?_ (n + 1) (.mk s.heap s.toks s.gens m news 0 hst F N off hS h0 (Nat.zero_le _)) ht
  rintro k s' ⟨h, tk, g, m', news', i, hst', F', N', off', hS', hJ, hi⟩
  by_cases hlt : i < n
  · refine W.item i _ _ _ hlt hst' fun v h₁ tk₁ hP hst₁ hk₁ => ?_
    have F₁ : Fr h₀ env.locals h₁ m' := LCg.fr_but F' hk₁ hIL hI₀
    have N₁ : News h₀ env.locals h₁ news' := LCg.news_but N' hk₁ off'
    obtain ⟨oI, heI⟩ := hIo _ _ hst₁
    have N₂ : News h₀ env.locals h₁ ((I, oI) :: news') := fun p hp => by
      rcases List.mem_cons.mp hp with rfl | hp
      · exact ⟨heI, Ne.symm hIL, hI₀⟩
      · exact N₁ p hp
    refine wpAny_passesOwn hE (wpAny_mono (step i v oI m' news' h₁ tk₁ g hlt hP hJ hS' off' F₁ N₂) (fun _ s₂ h₂ => wpAny_passesOwn hE (wpAny_mono h₂ (fun f s₃ h₃ => ?_) fun _ _ e => e)) fun _ _ e => e)
    have go : GoM h₀ env.locals I oI S (J (i + 1)) s s₃ → ∃ k', k' < n + 1 - i ∧ LMI h₀ env.locals I n St S J s k' s₃ := by
      rintro ⟨h₃', tk₃, g₃, m₂, news₂, rfl, F₃, N₃, off₃, hS₃, hJ₃⟩
      have N₃' : News h₀ env.locals h₃' news₂ := fun p hp => N₃ p (List.mem_cons_of_mem _ hp)
      exact ⟨n + 1 - (i + 1), Nat.sub_lt_sub_left (Nat.lt_succ_of_lt hlt) (Nat.lt_succ_self i), .mk h₃' tk₃ g₃ m₂ news₂ (i + 1) (hSt _ _ _ _ _ hst₁ heI (N₃ (I, oI) List.mem_cons_self).1 F₃.keep N₃' hS₃) F₃ N₃' off₃ hS₃ hJ₃ hlt⟩
    cases f with
    | ret v => exact h₃
    | brk => exact h₃
    | next => exact go h₃
    | cont => exact go h₃
  · obtain rfl : i = n := Nat.le_antisymm hi (Nat.le_of_not_lt hlt)
    refine W.done _ _ _ hst' fun h₁ tk₁ hk₁ => ?_
    exact wpAny_passesOwn hE (done h₁ tk₁ g m' news' hJ hS' (LCg.fr_but F' hk₁ hIL hI₀) (LCg.news_but N' hk₁ off'))
theorem loop_range {Q : Flow → Shared → Prop} {E : Value → Shared → Prop} {target : Expr} {body orelse : List Stmt} {r : Addr} {a b : Int} {t u v : Tok} (n : Nat) {news : List (Addr × Obj)}
    (hh : A.handled = none) (hr : IsRange s.heap r a b 1 t u v) (hsm : Builtin.Range.small a b 1 = true) (hn : Builtin.Range.rangeSize a b 1 = ((n : Nat) : Int))
    (F : Fr h₀ env.locals s.heap m) (N : News h₀ env.locals s.heap news) (J : Nat → (Str → Option Value) → List (Addr × Obj) → Array GenState → Prop) (h0 : J 0 m news s.gens)
    (step : ∀ I i oI t m₁ news₁ h tk g, i < n → J i m₁ news₁ g → (∀ p ∈ news₁, p.1 ≠ I) → (∀ p ∈ news, p.1 < I) → Fr h₀ env.locals h m₁ → News h₀ env.locals h ((I, oI) :: news₁) →
      wpAny (model prog w) A (assign target env (.int (a + (i : Int)) t)) (fun _ s' => wpAny (model prog w) A (execs body env) (Turn h₀ env.locals I oI (fun _ => True) (J (i + 1)) s Q) E s') E { s with heap := h, toks := tk, gens := g })
    (done : ∀ h tk g m' news', J n m' news' g → Fr h₀ env.locals h m' → News h₀ env.locals h news' → wpAny (model prog w) A (execs orelse env) Q E { s with heap := h, toks := tk, gens := g })
    (hE : PassesOwn (model prog w) A env E := by passes_own) (ht : ∀ I v, letOwnedTupleGo target (.ref I) v = pure () := by intro _ _; rfl) :
    LoopTo prog w A env target body orelse Q E (.ref r) s := by
  refine wpAny_pyIter_range hr hsm ?_
  have lt : ∀ p ∈ news, p.1 < s.heap.objs.size := fun p hp => Heap.lt_size (N p hp).1
  refine loop_my (S := fun _ => True) (s := { s with heap := _ }) (LCg.range_walks hh a n) (fun i h st => ⟨_, st⟩) LCg.range_st hE (by show IsRangeIter _ _ _ _ _; rw [hn]; simpa using Heap.get?_push_size _ rfl)
    (F.keeps fun _ _ e => Heap.get?_push_of_some _ e) (N.grown fun _ _ e => Heap.get?_push_of_some _ e) (Nat.ne_of_lt F.ns.lt) (next_is_new F) (fun p hp => Nat.ne_of_lt (lt p hp)) trivial J h0 ?_ ?_ (fun v => ht _ v)
  · rintro i v oI m₁ news₁ h tk g hi ⟨t, rfl⟩ hJ - off F₁ N₁
    exact step _ i oI t m₁ news₁ h tk g hi hJ off lt F₁ N₁
  · intro h tk g m' news' hJ _ F' N'
    exact done h tk g m' news' hJ F' N'
theorem loop_list {Q : Flow → Shared → Prop} {E : Value → Shared → Prop} {target : Expr} {body orelse : List Stmt} {ax : Addr} (us : List Value) (k : Nat) {news : List (Addr × Obj)}
    (hh : A.handled = none) (hm : (ax, listOf us.toArray k) ∈ news)
    (F : Fr h₀ env.locals s.heap m) (N : News h₀ env.locals s.heap news) (J : Nat → (Str → Option Value) → List (Addr × Obj) → Array GenState → Prop) (h0 : J 0 m news s.gens)
    (step : ∀ I i oI v m₁ news₁ h tk g, us[i]? = some v → J i m₁ news₁ g → (ax, listOf us.toArray k) ∈ news₁ → (∀ p ∈ news₁, p.1 ≠ I) → (∀ p ∈ news, p.1 < I) → Fr h₀ env.locals h m₁ → News h₀ env.locals h ((I, oI) :: news₁) →
      wpAny (model prog w) A (assign target env v) (fun _ s' => wpAny (model prog w) A (execs body env) (Turn h₀ env.locals I oI (fun nw => (ax, listOf us.toArray k) ∈ nw) (J (i + 1)) s Q) E s') E { s with heap := h, toks := tk, gens := g })
    (done : ∀ h tk g m' news', J us.length m' news' g → (ax, listOf us.toArray k) ∈ news' → Fr h₀ env.locals h m' → News h₀ env.locals h news' → wpAny (model prog w) A (execs orelse env) Q E { s with heap := h, toks := tk, gens := g })
    (hE : PassesOwn (model prog w) A env E := by passes_own) (ht : ∀ I v, letOwnedTupleGo target (.ref I) v = pure () := by intro _ _; rfl) :
    LoopTo prog w A env target body orelse Q E (.ref ax) s := by
  have hl : s.heap.IsList ax us.toArray := N.isList hm
  have hlt : ax < s.heap.objs.size := Heap.lt_size (N _ hm).1
  have lt : ∀ p ∈ news, p.1 < s.heap.objs.size := fun p hp => Heap.lt_size (N p hp).1
  refine wpAny_pyIter_list hl ?_
  have up : ∀ b o, s.heap.get? b = some o → (s.heap.push { cls := .type "list_iterator", data := .fields #[.ref ax, .int 0 0] }).get? b = some o := fun b o e => Heap.get?_push_of_some _ e
  refine loop_my (S := fun nw => (ax, listOf us.toArray k) ∈ nw) (s := { s with heap := _ }) (Walks.list hh s.heap.objs.size ax (Nat.ne_of_lt hlt) us.toArray) (fun i h st => by obtain ⟨o, e, _⟩ := st.1; exact ⟨o, e⟩)
    (fun i h h' o nw st e e' kk N' hS => LCg.list_st (h₀ := h₀) (L := env.locals) i h h' o nw st e e' kk N' (.inr ⟨_, hS, rfl, k, rfl⟩)) hE ⟨⟨_, Heap.get?_push_size _ rfl, rfl, rfl⟩, hl.push _⟩
    (F.keeps up) (N.grown up) (Nat.ne_of_lt F.ns.lt) (next_is_new F) (fun p hp => Nat.ne_of_lt (lt p hp)) hm J h0 ?_ ?_ (fun v => ht _ v)
  · intro i v oI m₁ news₁ h tk g hi hP hJ hS off F₁ N₁
    exact step _ i oI v m₁ news₁ h tk g (by simpa using hP) hJ hS off lt F₁ N₁
  · intro h tk g m' news' hJ hS F' N'
    exact done h tk g m' news' (by simpa using hJ) hS F' N'
def StepEnd {α : Type} (h₀ : Heap) (L : Addr) (m : Str → Option Value) (news : List (Addr × Obj)) (s : Shared) (P : α → Prop) (v : α) (s' : Shared) : Prop := ∃ h' tk, s' = { s with heap := h', toks := tk } ∧ Fr h₀ L h' m ∧ News h₀ L h' news ∧ P v
theorem StepEnd.mk {α : Type} {L : Addr} {news : List (Addr × Obj)} {P : α → Prop} {v : α} {h' : Heap} {tk : Nat} (F : Fr h₀ L h' m) (N : News h₀ L h' news) (p : P v) : StepEnd h₀ L m news s P v { s with heap := h', toks := tk } := ⟨h', tk, rfl, F, N, p⟩
theorem step_mono {α : Type} {t : Sem α} {L : Addr} {news : List (Addr × Obj)} {Q : α → Shared → Prop} {E : Value → Shared → Prop} (F : Fr h₀ L s.heap m) (N : News h₀ L s.heap news) (P : α → Prop)
    (h : wpAny (model prog w) A t (StepEnd h₀ L m news s P) E s) (k : ∀ v h' tk, P v → Fr h₀ L h' m → News h₀ L h' news → Q v { s with heap := h', toks := tk }) : wpAny (model prog w) A t Q E s :=
  wpAny_mono h (fun v s' q => by obtain ⟨h', tk, rfl, F', N', p⟩ := q; exact k v h' tk p F' N') fun _ _ e => e
theorem app_at {L D : Addr} {its : Array Value} {n : Nat} {x : Value} {all : List (Addr × Obj)} {Q : Value → Shared → Prop} {E : Value → Shared → Prop} (rest : List (Addr × Obj)) (F : Fr h₀ L s.heap m) (N : News h₀ L s.heap all) (hsub : ∀ p ∈ (D, listOf its n) :: rest, p ∈ all) (ap : ∀ p ∈ rest, p.1 ≠ D) (hsz : its.size ≤ sizeLine)
    (h : ∀ h', Fr h₀ L h' m → News h₀ L h' ((D, listOf (its.push x) (n + 1)) :: rest) → Q .none { s with heap := h' }) : wpAny (model prog w) A (call (.builtin "list.append") [.ref D, x]) Q E s :=
  append_K F (sub_news N hsub) (Upd.head ap) h hsz
/-- a cell takes a value -/
theorem assign_cell {L : Addr} {x : Str} {px : Pos} {c : Addr} {oc : Obj} {vc : Option Value} {v : Value} {Q : Unit → Shared → Prop} {E : Value → Shared → Prop} (pre post : List (Addr × Obj))
    (hk : env.scope.kind = .function) (hl : env.kindOf x = some .cell) (hc : env.cells.lookup x = some c) (F : Fr h₀ L s.heap m) (N : News h₀ L s.heap (pre ++ (c, oc) :: post)) (ho : oc.data = .cell vc) (a : ∀ p ∈ pre, p.1 ≠ c) (b : ∀ p ∈ post, p.1 ≠ c)
    (h : ∀ o' h', o'.data = .cell (some v) → Fr h₀ L h' m → News h₀ L h' (pre ++ (c, o') :: post) → Q () { s with heap := h' }) : wpAny (model prog w) A (assign (.Name x px) env v) Q E s := by
  have z := N (c, oc) (List.mem_append.mpr (.inr (.head _)))
  refine wpAny_assign_Name (wpAny_storeName_cell hk hl hc ⟨oc, z.1, ho⟩ fun h' hc' hs => ?_)
  obtain ⟨o', e, hd⟩ := hc'
  exact h o' h' hd (F.change hs z.2.1 z.2.2) (news_set N a b hs e)
end
end Mine

-- Cmp
theorem Mine.gap_Cmp : True ∧ True := by w_top off; walk1 <;> trivial
namespace Mine
open PySem PySem.W PySem.Calls PyProof.Rows
def strD (ns : List Str) : PyData := .list (ns.map .str)
def strsD (ns : List (List Str)) : PyData := .list (ns.map strD)
def strssD (ns : List (List (List Str))) : PyData := .list (ns.map strsD)
def okS (ns : List Str) : Prop := ∀ x ∈ ns, PyData.strOk x = true
theorem lay_strs : ∀ {ns : List Str}, okS ns → PyData.canLayAll0 (ns.map PyData.str) = true
  | [], _ => rfl
  | x :: r, h => by
    show (PyData.canLay0 (.str x) && PyData.canLayAll0 (r.map PyData.str)) = true
    rw [lay_strs (fun y hy => h y (List.mem_cons_of_mem _ hy))]
    have e : PyData.strOk x = true := h x List.mem_cons_self
    simp only [PyData.canLay0, e, Bool.and_self]
theorem depth_strs : ∀ ns : List Str, PyData.depthAll (ns.map PyData.str) = 0
  | [] => rfl
  | _ :: r => by simp [PyData.depthAll, PyData.depth, depth_strs r]
theorem shaped_strs {ns : List Str} (h : okS ns) : SeqAt.shaped (strD ns) = true := by
  unfold strD SeqAt.shaped
  simp only [PyData.canLay0, lay_strs h, PyData.depth, depth_strs]; rfl
theorem lay_strss : ∀ {ns : List (List Str)}, (∀ x ∈ ns, okS x) → PyData.canLayAll0 (ns.map strD) = true
  | [], _ => rfl
  | x :: r, h => by
    show (PyData.canLay0 (.list (x.map PyData.str)) && PyData.canLayAll0 (r.map strD)) = true
    rw [lay_strss (fun y hy => h y (List.mem_cons_of_mem _ hy))]
    simp only [PyData.canLay0, lay_strs (h x List.mem_cons_self), Bool.and_self]
theorem depth_strss : ∀ ns : List (List Str), PyData.depthAll (ns.map strD) ≤ 1
  | [] => by simp [PyData.depthAll]
  | x :: r => by
    have := depth_strss r
    rw [List.map_cons]
    show max (PyData.depth (strD x)) (PyData.depthAll (r.map strD)) ≤ 1
    have e : PyData.depth (strD x) = 1 := by simp [strD, PyData.depth, depth_strs]
    omega
theorem shaped_strss {ns : List (List Str)} (h : ∀ x ∈ ns, okS x) : SeqAt.shaped (strsD ns) = true := by
  unfold strsD SeqAt.shaped
  have := depth_strss ns
  simp only [PyData.canLay0, lay_strss h, PyData.depth, Bool.true_and]
  exact decide_eq_true (by omega)
theorem lay_strsss : ∀ {ns : List (List (List Str))}, (∀ x ∈ ns, ∀ y ∈ x, okS y) → PyData.canLayAll0 (ns.map strsD) = true
  | [], _ => rfl
  | x :: r, h => by
    show (PyData.canLay0 (.list (x.map strD)) && PyData.canLayAll0 (r.map strsD)) = true
    rw [lay_strsss (fun y hy => h y (List.mem_cons_of_mem _ hy))]
    simp only [PyData.canLay0, lay_strss (h x List.mem_cons_self), Bool.and_self]
theorem depth_strsss : ∀ ns : List (List (List Str)), PyData.depthAll (ns.map strsD) ≤ 2
  | [] => by simp [PyData.depthAll]
  | x :: r => by
    have e : PyData.depthAll (r.map strsD) ≤ 2 := depth_strsss r
    have e2 := depth_strss x
    rw [List.map_cons]
    show max (PyData.depth (strsD x)) (PyData.depthAll (r.map strsD)) ≤ 2
    have e3 : PyData.depth (strsD x) = PyData.depthAll (x.map strD) + 1 := by simp [strsD, PyData.depth]
    omega
theorem shaped_strsss {ns : List (List (List Str))} (h : ∀ x ∈ ns, ∀ y ∈ x, okS y) : SeqAt.shaped (strssD ns) = true := by
  unfold strssD SeqAt.shaped
  have := depth_strsss ns
  simp only [PyData.canLay0, lay_strsss h, PyData.depth, Bool.true_and]
  exact decide_eq_true (by omega)
theorem eqv_strs : ∀ ns ms : List Str, PyData.eqvAll (ns.map PyData.str) (ms.map PyData.str) = decide (ns = ms)
  | [], [] => by simp [PyData.eqvAll]
  | [], _ :: _ => by simp [PyData.eqvAll]
  | _ :: _, [] => by simp [PyData.eqvAll]
  | a :: r, b :: t => by
    simp only [List.map_cons, PyData.eqvAll, PyData.eqv, eqv_strs r t]
    by_cases h : a = b <;> by_cases h' : r = t <;> simp [h, h']
theorem eqv_strD (ns ms : List Str) : PyData.eqv (strD ns) (strD ms) = decide (ns = ms) := by
  unfold strD; simp only [PyData.eqv, eqv_strs]
theorem eqv_strss : ∀ ns ms : List (List Str), PyData.eqvAll (ns.map strD) (ms.map strD) = decide (ns = ms)
  | [], [] => by simp [PyData.eqvAll]
  | [], _ :: _ => by simp [PyData.eqvAll]
  | _ :: _, [] => by simp [PyData.eqvAll]
  | a :: r, b :: t => by
    simp only [List.map_cons, PyData.eqvAll, eqv_strD, eqv_strss r t]
    by_cases h : a = b <;> by_cases h' : r = t <;> simp [h, h']
theorem eqv_strsD (ns ms : List (List Str)) : PyData.eqv (strsD ns) (strsD ms) = decide (ns = ms) := by
  unfold strsD; simp only [PyData.eqv, eqv_strss]
theorem eqv_strsss : ∀ ns ms : List (List (List Str)), PyData.eqvAll (ns.map strsD) (ms.map strsD) = decide (ns = ms)
  | [], [] => by simp [PyData.eqvAll]
  | [], _ :: _ => by simp [PyData.eqvAll]
  | _ :: _, [] => by simp [PyData.eqvAll]
  | a :: r, b :: t => by
    simp only [List.map_cons, PyData.eqvAll, eqv_strsD, eqv_strsss r t]
    by_cases h : a = b <;> by_cases h' : r = t <;> simp [h, h']
theorem eqv_strssD (ns ms : List (List (List Str))) : PyData.eqv (strssD ns) (strssD ms) = decide (ns = ms) := by
  unfold strssD; simp only [PyData.eqv, eqv_strsss]
theorem reads_strs (h : Heap) : ∀ {vs : List Value} {ns : List Str}, StrsAre vs ns → ReadsAll h vs (ns.map PyData.str) []
  | _, _, .nil => .nil
  | _, _, .cons x t r => by
    have := ReadsAll.cons (Reads.str (h := h) x t) (reads_strs h r)
    exact this
theorem reads_strD {h : Heap} {a : Addr} {vs : List Value} {ns : List Str} (hl : h.IsList a vs.toArray) (hs : StrsAre vs ns) : Reads h (.ref a) (strD ns) [a] := by
  obtain ⟨o, ho, hc, n, hd⟩ := hl
  exact .list ho hc hd (reads_strs h hs)
section
variable {prog : Program} {w : World} {A : Around} {E : Value → Shared → Prop} {s : Shared} {a b : Addr} {xs ys : List Value} {ns ms : List Str} {Q : Value → Shared → Prop}
theorem eq_strs (ha : s.heap.IsList a xs.toArray) (hb : s.heap.IsList b ys.toArray) (hi : StrsAre xs ns) (hj : StrsAre ys ms) (on : okS ns) (om : okS ms) (hu : A.units + 64 < cLine) (h : Q (.bool (decide (ns = ms))) s) :
    wpAny (model prog w) A (compareOp .Eq (.ref a) (.ref b)) Q E s :=
  eq_dataH (reads_strD ha hi) (reads_strD hb hj) (shaped_strs on) (shaped_strs om) hu (by rw [eqv_strD]; exact h)
theorem ne_strs (ha : s.heap.IsList a xs.toArray) (hb : s.heap.IsList b ys.toArray) (hi : StrsAre xs ns) (hj : StrsAre ys ms) (on : okS ns) (om : okS ms) (hu : A.units + 64 < cLine) (h : Q (.bool (!decide (ns = ms))) s) :
    wpAny (model prog w) A (compareOp .NotEq (.ref a) (.ref b)) Q E s :=
  ne_dataH (reads_strD ha hi) (reads_strD hb hj) (shaped_strs on) (shaped_strs om) hu (by rw [eqv_strD]; exact h)
end
end Mine

-- Bits
theorem Mine.gap_Bits : True ∧ True := by w_top off; walk1 <;> trivial
namespace Mine
open PySem PySem.W PySem.Calls PyProof.Rows
def pname (j : Nat) : Str := FN (j : Int)
def pnames (x k : Nat) : List Str := ((List.range k).filter (fun j => x.testBit j)).map pname
theorem pname_dict : ∀ i : Fin 32, ∀ j : Fin 10, (1 * 2 ^ ((i.val : Int)).toNat : Int) = 2 ^ j.val → flagNames.getD j.val Str.empty = pname i.val := by decide +kernel
theorem pname_hex : ∀ i : Fin 32, (∀ j : Fin 10, ¬ (1 * 2 ^ ((i.val : Int)).toNat : Int) = 2 ^ j.val) → baseText "0x" 16 (1 * 2 ^ ((i.val : Int)).toNat) = pname i.val := by decide +kernel
theorem hex_size {i : Nat} (h : i < 32) : (baseText "0x" 16 (1 * 2 ^ ((i : Int)).toNat)).length ≤ sizeLine := by
  have : ∀ i : Fin 32, (baseText "0x" 16 (1 * 2 ^ ((i.val : Int)).toNat)).length ≤ 100 := by decide +kernel
  rw [sizeLine_eq]
  exact Nat.le_trans (this ⟨i, h⟩) (by decide)
theorem pname_size : ∀ i : Fin 32, (pname i.val).length ≤ 100 := by decide +kernel
theorem pnames_s (x k : Nat) : pnames x (k + 1) = pnames x k ++ (if x.testBit k then [pname k] else []) := by
  unfold pnames
  rw [List.range_succ, List.filter_append, List.map_append]
  by_cases h : x.testBit k = true <;> simp [h]
theorem one_pow (i : Nat) : (1 * 2 ^ ((i : Int)).toNat : Int) = ((2 ^ i : Nat) : Int) := by simp
theorem and_form (y i : Nat) : Builtin.bitAnd ((y : Nat) : Int) (1 * 2 ^ ((i : Int)).toNat) = ((y &&& 2 ^ i : Nat) : Int) := by
  rw [one_pow]
  unfold Builtin.bitAnd
  have h1 : decide ((0 : Int) ≤ ((y : Nat) : Int)) = true := by simp
  have h2 : decide ((0 : Int) ≤ ((2 ^ i : Nat) : Int)) = true := decide_eq_true (Int.natCast_nonneg _)
  rw [h1, h2]
  show ((y &&& (((2 ^ i : Nat) : Int)).toNat : Nat) : Int) = _
  rw [Int.toNat_natCast]
theorem hi_test (x i : Nat) : (x / 2 ^ i * 2 ^ i).testBit i = x.testBit i := by
  rw [← Nat.shiftRight_eq_div_pow, ← Nat.shiftLeft_eq, Nat.testBit_shiftLeft]
  simp
theorem and_ne (x i : Nat) : Builtin.bitAnd ((x / 2 ^ i * 2 ^ i : Nat) : Int) (1 * 2 ^ ((i : Int)).toNat) ≠ 0 ↔ x.testBit i = true := by
  rw [and_form]
  have e : (x / 2 ^ i * 2 ^ i &&& 2 ^ i) = 2 ^ i * (if x.testBit i then 1 else 0) := by
    apply Nat.eq_of_testBit_eq
    intro j
    rw [Nat.testBit_and, Nat.testBit_two_pow]
    by_cases h : x.testBit i = true
    · simp only [h, if_true, Nat.mul_one, Nat.testBit_two_pow]
      by_cases hj : i = j
      · subst hj; rw [hi_test, h]; simp
      · simp [hj]
    · have h' : x.testBit i = false := by simpa using h
      simp only [h', Bool.false_eq_true, if_false, Nat.mul_zero, Nat.zero_testBit]
      by_cases hj : i = j
      · subst hj; rw [hi_test, h']; simp
      · simp [hj]
  rw [e]
  have hp : 2 ^ i ≠ 0 := Nat.pos_iff_ne_zero.mp (Nat.two_pow_pos i)
  by_cases h : x.testBit i = true
  · rw [if_pos h, Nat.mul_one]; exact ⟨fun _ => h, fun _ q => hp (by exact_mod_cast q)⟩
  · rw [if_neg h, Nat.mul_zero]; exact ⟨fun q => absurd rfl q, fun q => absurd q h⟩
theorem next_bit (x i : Nat) : x / 2 ^ i = 2 * (x / 2 ^ (i + 1)) + (if x.testBit i then 1 else 0) := by
  have h1 : x / 2 ^ (i + 1) = x / 2 ^ i / 2 := by rw [Nat.pow_succ, Nat.div_div_eq_div_mul]
  have h2 : (x.testBit i) = decide (x / 2 ^ i % 2 = 1) := by
    rw [Nat.testBit_eq_decide_div_mod_eq]
  rw [h1, h2]
  by_cases h : x / 2 ^ i % 2 = 1
  · simp only [h, decide_true, if_true]; omega
  · simp only [h, decide_false, Bool.false_eq_true, if_false]; omega
theorem hi_clear {x i : Nat} (h : x.testBit i = false) : x / 2 ^ i * 2 ^ i = x / 2 ^ (i + 1) * 2 ^ (i + 1) := by
  rw [next_bit x i, h, Nat.pow_succ]
  simp only [Bool.false_eq_true, if_false, Nat.add_zero]
  rw [Nat.mul_comm 2 (x / _), Nat.mul_assoc, Nat.mul_comm 2 (2 ^ i), ← Nat.pow_succ]
theorem hi_set {x i : Nat} (h : x.testBit i = true) : x / 2 ^ i * 2 ^ i = x / 2 ^ (i + 1) * 2 ^ (i + 1) + 2 ^ i := by
  conv => lhs; rw [next_bit x i]
  rw [h, Nat.pow_succ]
  simp only [if_true]
  rw [Nat.add_mul, Nat.one_mul, Nat.mul_comm 2 (x / _), Nat.mul_assoc, Nat.mul_comm 2 (2 ^ i), ← Nat.pow_succ]
theorem or_form (y z : Nat) : Builtin.bitOr ((y : Nat) : Int) ((z : Nat) : Int) = ((y ||| z : Nat) : Int) := by
  unfold Builtin.bitOr Builtin.bitAnd
  have h1 : decide ((0 : Int) ≤ Builtin.bitNot ((y : Nat) : Int)) = false := decide_eq_false (by unfold Builtin.bitNot; omega)
  have h2 : decide ((0 : Int) ≤ Builtin.bitNot ((z : Nat) : Int)) = false := decide_eq_false (by unfold Builtin.bitNot; omega)
  rw [h1, h2]
  show Builtin.bitNot (Builtin.bitNot (((Builtin.bitNot (Builtin.bitNot (y : Int))).toNat ||| (Builtin.bitNot (Builtin.bitNot (z : Int))).toNat : Nat) : Int)) = _
  have e : ∀ a : Int, Builtin.bitNot (Builtin.bitNot a) = a := fun a => by unfold Builtin.bitNot; omega
  rw [e, e, e, Int.toNat_natCast, Int.toNat_natCast]
theorem xor_form {x i : Nat} (h : x.testBit i = true) : Builtin.bitXor ((x / 2 ^ i * 2 ^ i : Nat) : Int) (1 * 2 ^ ((i : Int)).toNat) = ((x / 2 ^ (i + 1) * 2 ^ (i + 1) : Nat) : Int) := by
  unfold Builtin.bitXor
  rw [and_form, one_pow, or_form]
  have e1 : (x / 2 ^ i * 2 ^ i ||| 2 ^ i) = x / 2 ^ i * 2 ^ i := by
    apply Nat.eq_of_testBit_eq
    intro j
    rw [Nat.testBit_or, Nat.testBit_two_pow]
    by_cases hj : i = j
    · subst hj; rw [hi_test, h]; simp
    · simp [hj]
  have e2 : (x / 2 ^ i * 2 ^ i &&& 2 ^ i) = 2 ^ i := by
    apply Nat.eq_of_testBit_eq
    intro j
    rw [Nat.testBit_and, Nat.testBit_two_pow]
    by_cases hj : i = j
    · subst hj; rw [hi_test, h]; simp
    · simp [hj]
  have e3 := hi_set h
  rw [e1, e2]
  omega
theorem pd0 : ∀ i : Fin 32, (1 * 2 ^ ((i.val : Int)).toNat : Int) = 1 → Str.ofString "OPTIMIZED" = pname i.val := by decide +kernel
theorem pd1 : ∀ i : Fin 32, (1 * 2 ^ ((i.val : Int)).toNat : Int) = 2 → Str.ofString "NEWLOCALS" = pname i.val := by decide +kernel
theorem pd2 : ∀ i : Fin 32, (1 * 2 ^ ((i.val : Int)).toNat : Int) = 4 → Str.ofString "VARARGS" = pname i.val := by decide +kernel
theorem pd3 : ∀ i : Fin 32, (1 * 2 ^ ((i.val : Int)).toNat : Int) = 8 → Str.ofString "VARKEYWORDS" = pname i.val := by decide +kernel
theorem pd4 : ∀ i : Fin 32, (1 * 2 ^ ((i.val : Int)).toNat : Int) = 16 → Str.ofString "NESTED" = pname i.val := by decide +kernel
theorem pd5 : ∀ i : Fin 32, (1 * 2 ^ ((i.val : Int)).toNat : Int) = 32 → Str.ofString "GENERATOR" = pname i.val := by decide +kernel
theorem pd6 : ∀ i : Fin 32, (1 * 2 ^ ((i.val : Int)).toNat : Int) = 64 → Str.ofString "NOFREE" = pname i.val := by decide +kernel
theorem pd7 : ∀ i : Fin 32, (1 * 2 ^ ((i.val : Int)).toNat : Int) = 128 → Str.ofString "COROUTINE" = pname i.val := by decide +kernel
theorem pd8 : ∀ i : Fin 32, (1 * 2 ^ ((i.val : Int)).toNat : Int) = 256 → Str.ofString "ITERABLE_COROUTINE" = pname i.val := by decide +kernel
theorem pd9 : ∀ i : Fin 32, (1 * 2 ^ ((i.val : Int)).toNat : Int) = 512 → Str.ofString "ASYNC_GENERATOR" = pname i.val := by decide +kernel
theorem pdH' : ∀ i : Fin 32, (([1, 2, 4, 8, 16, 32, 64, 128, 256, 512] : List Int).all fun c => !decide ((1 * 2 ^ ((i.val : Int)).toNat : Int) = c)) = true → baseText "0x" 16 (1 * 2 ^ ((i.val : Int)).toNat) = pname i.val := by decide +kernel
theorem pdH {i : Nat} (h : i < 32) (h0 : ¬ (1 * 2 ^ ((i : Int)).toNat : Int) = 1) (h1 : ¬ (1 * 2 ^ ((i : Int)).toNat : Int) = 2) (h2 : ¬ (1 * 2 ^ ((i : Int)).toNat : Int) = 4) (h3 : ¬ (1 * 2 ^ ((i : Int)).toNat : Int) = 8) (h4 : ¬ (1 * 2 ^ ((i : Int)).toNat : Int) = 16) (h5 : ¬ (1 * 2 ^ ((i : Int)).toNat : Int) = 32) (h6 : ¬ (1 * 2 ^ ((i : Int)).toNat : Int) = 64) (h7 : ¬ (1 * 2 ^ ((i : Int)).toNat : Int) = 128) (h8 : ¬ (1 * 2 ^ ((i : Int)).toNat : Int) = 256) (h9 : ¬ (1 * 2 ^ ((i : Int)).toNat : Int) = 512) : baseText "0x" 16 (1 * 2 ^ ((i : Int)).toNat) = pname i := pdH' ⟨i, h⟩ (by simp only [List.all_cons, List.all_nil, h0, h1, h2, h3, h4, h5, h6, h7, h8, h9, decide_false, Bool.not_false, Bool.and_self])
theorem pnames_sum (x : Nat) : ∀ k, k ≤ 32 → ((pnames x k).map (·.length)).sum ≤ 100 * k
  | 0, _ => by simp [pnames]
  | k + 1, h => by
    have e := pnames_sum x k (by omega)
    rw [pnames_s]
    by_cases hb : x.testBit k = true
    · have := pname_size ⟨k, h⟩
      simp only [hb, if_true, List.map_append, List.map_cons, List.map_nil, List.sum_append, List.sum_cons, List.sum_nil]
      simp only at this
      omega
    · simp only [hb, Bool.false_eq_true, if_false, List.append_nil]; omega
theorem pnames_len (x : Nat) (k : Nat) : (pnames x k).length ≤ k := by
  unfold pnames
  rw [List.length_map]
  exact Nat.le_trans (List.length_filter_le _ _) (by simp)
theorem pnames_top {x i : Nat} (h : x / 2 ^ i = 0) : ∀ k, i ≤ k → pnames x k = pnames x i
  | 0, hk => by obtain rfl : i = 0 := by omega
                rfl
  | k + 1, hk => by
    by_cases e : i = k + 1
    · rw [e]
    · rw [pnames_s, pnames_top h k (by omega)]
      have hx : x < 2 ^ i := (Nat.div_eq_zero_iff_lt (Nat.two_pow_pos i)).mp h
      have : x.testBit k = false := Nat.testBit_lt_two_pow (Nat.lt_of_lt_of_le hx (Nat.pow_le_pow_right (by decide) (by omega)))
      simp [this]
def PF (x : Nat) : Str := if x = 0 then Str.ofString "0x0" else Txt.join (Str.ofString ", ") (pnames x 32)
end Mine

-- Acc
theorem Mine.gap_Acc : True ∧ True := by w_top off; walk1 <;> trivial
namespace Mine
open PySem PySem.W PySem.Calls PyProof.Rows
set_option maxRecDepth 100000
abbrev accObj (dx : Addr) (its : Array Value) (n : Nat) : Obj := { cls := .ref 107, dict := some dx, data := .seq its n }
noncomputable abbrev KH (w : World) : Frag := hd.heap_1 w.params
theorem kf_start (w : World) : PySem.Challenge.rw_zd0009_01 = PySem.Challenge.rw_zd0009_01 → findIn (hd.heap_1 w.params) (.ref 107) "__getattr__" = some none := by k_fill; intro _; k_is
theorem acc_inst {h : Heap} {x dx : Addr} {its : Array Value} {n : Nat} {od : Obj} (h1 : h.get? x = some (accObj dx its n)) (h2 : h.get? dx = some od) : InstAt h x (accObj dx its n) 107 (some od) := ⟨h1, rfl, rfl, h2⟩
theorem acc_isList (w : World) {M : Model} {h : Heap} (X : (KH w).In h) {x : Addr} {ox : Obj} {od : Option Obj} (I : InstAt h x ox 107 od) : Looks M h (isInstance (.ref x) (.type "list")) true := by
  have e : mroIn (hd.heap_1 w.params) 107 (.type "list") = some true := by k_is
  exact I.type.andThen (looks_mroIn X e)
/-- as Spec, but the whole ledger is given anew, and generators may have been made -/
abbrev Spec2 (w : World) (p : Program) (loose : List Str) (mean : ExcName → Option Value) (mg mb : Str → Option Value) (d : Nat) (f : Addr) (news : List (Addr × Obj)) (vs : List Value) (Post : Value → List (Addr × Obj) → Prop) : Prop :=
  ∀ (dp un : Nat) (gd : Option (List Code)) (cn : Str) (cs : Scope) (a : Addr) (ccd : Value) (cl : List (Str × Addr)) (outer : List Env) (A₀ : Around) (base h₀ : Heap) (L : Addr) (m : Str → Option Value) (s : Shared) (Q E : Value → Shared → Prop),
    Below A₀ base outer h₀ → Fr h₀ L s.heap m → (hd.heap_1 w.params).In h₀ → News h₀ L s.heap news → Top p loose mean mg mb h₀ → AllBare s.gens → cs.kind = .function → dp + d < recursionLimit → un + 10 * d + 100 < cLine →
    (∀ (r : Value) (news' : List (Addr × Obj)) (h' : Heap) (tk' : Nat) (g' : Array GenState), AllBare g' → Fr h₀ L h' m → News h₀ L h' news' → Post r news' → Q r { s with heap := h', toks := tk', gens := g' }) →
    wpAny (model PySem.Challenge.rw_zd0009_01.row.prog w) (ktrTop dp un gd cn cs L a ccd cl outer) (call (.ref f) vs) Q E s
abbrev tupObj (vs : Array Value) : Obj := { cls := .type "tuple", data := .seq vs 0 }
section
variable {prog : Program} {w : World} {A : Around} {E : Value → Shared → Prop} {s : Shared}
theorem check_meth {M : Model} {A : Around} {E : Value → Shared → Prop} {s : Shared} {i owner n : String} {self : Value} {rest : List Value} {kw : List (Str × Value)} {Q : Unit → Shared → Prop}
    (hk : builtinKind i = some .method) (hs : splitId i = some (owner, n)) (hi : Looks M s.heap (isInstance self (.type owner)) true) (ha : argsOk i ⟨self :: rest, kw⟩) (q : Q () s) :
    wpAny M A (checkBuiltinCall i ⟨self :: rest, kw⟩) Q E s := by
  simp only [checkBuiltinCall, hk, hs]
  refine wpAny_bind (hi.here ?_)
  simp only [Bool.not_true, Bool.false_eq_true, if_false]
  cases hsig : Manifest.signature? i with
  | none => exact wpAny_pure q
  | some sig =>
    simp only [argsOk, hsig] at ha
    have h2 : Bind.checkArgs i sig ⟨self :: rest, kw⟩ = pure () := ha
    show wpAny M A (Bind.checkArgs i sig ⟨self :: rest, kw⟩) Q E s
    rw [h2]; exact wpAny_pure q
/-- append on an object of a class below list -/
theorem acc_append {x dx : Addr} {its : Array Value} {n : Nat} {od : Obj} {v : Value} {Q : Value → Shared → Prop} (X : (KH w).In s.heap) (h1 : s.heap.get? x = some (accObj dx its n)) (h2 : s.heap.get? dx = some od)
    (hsz : its.size ≤ sizeLine) (h : ∀ h', Heap.SameBut x s.heap h' → h'.get? x = some (accObj dx (its.push v) (n + 1)) → Q .none { s with heap := h' }) : wpAny (model prog w) A (call (.builtin "list.append") [.ref x, v]) Q E s := by
  refine wpAny_call (codeAny_call_builtin F.slot_list_append.plain F.entry_list_append (check_meth (owner := "list") (n := "append") (by decide +kernel) (by decide +kernel) (acc_isList w X (acc_inst h1 h2)) (F.args_list_append_2 _ _) ?_))
  show wpAny _ _ (updateSeq x (·.push v) >>= fun _ => ret .none) _ _ s
  refine wpAny_bind ?_
  refine wpAny_updateSeq h1 rfl (wpAny_pure ?_)
  refine h _ (Heap.SameBut.update ..) ?_
  rw [Heap.get?_update_self _ h1 (by unfold Obj.mapSeq; simp [Obj.isFreed])]
  unfold Obj.mapSeq
  simp
theorem acc_getMethod {x dx : Addr} {its : Array Value} {n : Nat} {od : Obj} {pl : Sem Bool} {Q : Value × List Value → Shared → Prop} (X : (KH w).In s.heap) (h1 : s.heap.get? x = some (accObj dx its n)) (h2 : s.heap.get? dx = some od)
    (hod : lookIn (Str.ofString "append") od = some none) (h : Q (.builtin "list.append", [.ref x]) s) : wpAny (model prog w) A (getMethod (.ref x) (Str.ofString "append") pl) Q E s := by
  have I := acc_inst h1 h2
  have e1 : findIn (hd.heap_1 w.params) (.ref 107) "__getattribute__" = some (some (.builtin "list.__getattribute__")) := by k_is
  have e2 : findIn (hd.heap_1 w.params) (.ref 107) "__getattr__" = some none := by k_is
  have e3 : findIn (hd.heap_1 w.params) (.ref 107) (Str.ofString "append") = some (some (.builtin "list.append")) := by k_is
  have s1 : Looks (model prog w) s.heap (specialOf (.ref x) "__getattribute__") (some (.builtin "list.__getattribute__")) := I.type.andThen (looks_findIn X e1)
  have s2 : Looks (model prog w) s.heap (specialOf (.ref x) "__getattr__") none := I.type.andThen (looks_findIn X e2)
  have s3 : Looks (model prog w) s.heap (specialOf (.ref x) (Str.ofString "append")) (some (.builtin "list.append")) := I.type.andThen (looks_findIn X e3)
  unfold getMethod
  refine wpAny_bind (s1.here ?_)
  have c1 : (Manifest.canonical "list.__getattribute__" != "object.__getattribute__") = false := by decide +kernel
  simp only [c1, Bool.false_eq_true, if_false]
  refine wpAny_bind (s2.here ?_)
  simp only [Option.isSome_none, Bool.false_eq_true, if_false]
  refine wpAny_bind (s3.here ?_)
  dsimp only
  rw [F.type_list_append]
  refine wpAny_bind (wpAny_pure ?_)
  have c2 : ((Value.type "method_descriptor" != Value.type "function" && Value.type "method_descriptor" != Value.type "method_descriptor" && Value.type "method_descriptor" != Value.type "wrapper_descriptor")) = false := by decide +kernel
  simp only [c2, Bool.false_eq_true, if_false]
  refine wpAny_bind (wpAny_loadPart h1 ?_)
  dsimp only
  have e4 : Looks (model prog w) s.heap (nsGet dx (Str.ofString "append")) none := by
    unfold nsGet
    refine (Looks.ld h2).andThen ?_
    rw [nsLook_of hod]; exact Looks.now
  refine wpAny_bind (e4.here ?_)
  simp only [Option.isSome_none, Bool.false_eq_true, if_false]
  exact wpAny_bind (wpAny_rule (wpAny_pure h))
end
end Mine

-- Acc2
theorem Mine.gap_Acc2 : True ∧ True := by w_top off; walk1 <;> trivial
namespace Mine
open PySem PySem.W PySem.Calls PyProof.Rows
set_option maxRecDepth 100000
theorem kf_start2 (w : World) : PySem.Challenge.rw_zd0009_01 = PySem.Challenge.rw_zd0009_01 → findIn (hd.heap_1 w.params) (.ref 107) "__getattr__" = some none := by k_fill; intro _; k_is
/-- an object whose items are a row of values, of whatever class -/
def IsSeq (h : Heap) (x : Addr) (its : Array Value) : Prop := ∃ o, h.get? x = some o ∧ ∃ n, o.data = .seq its n
theorem IsSeq.at {h h' : Heap} {x : Addr} {its : Array Value} (k : IsSeq h x its) (e : ∀ o, h.get? x = some o → h'.get? x = some o) : IsSeq h' x its := let ⟨o, ho, r⟩ := k; ⟨o, e _ ho, r⟩
section
variable {prog : Program} {w : World} {A : Around} {E : Value → Shared → Prop} {s : Shared}
theorem next_item {it l : Addr} {i : Nat} {items : Array Value} {v : Value} {Q : Option Value → Shared → Prop} (hit : s.heap.IsListIter it l i) (hl : IsSeq s.heap l items) (hx : items[i]? = some v)
    (hQ : ∀ h', h'.IsListIter it l (i + 1) → Heap.SameBut it s.heap h' → Q (some v) { s with heap := h' }) : wpAny (model prog w) A (pyNext (.ref it)) Q E s := by
  obtain ⟨o, ho, hc, hd⟩ := id hit
  obtain ⟨ol, hol, nl, hdl⟩ := hl
  unfold pyNext
  refine wpAny_bind (wpAny_attempt (wpAny_callSpecial?_slot (name := Str.ofString "__next__") hit.typeIs slot_listiter_next (wpAny_call_entry slot_listiter_next hit.typeIs entry_listiter_next ?_ (args_listiter_next _))))
  show wpAny _ _ (field (.ref it) 0 >>= _) _ _ s
  refine wpAny_bind (wpAny_field ho hd (x := .ref l) rfl ?_)
  show wpAny _ _ (if (Value.ref l == Value.none) = true then _ else _) _ _ s
  rw [if_neg (show ¬ ((Value.ref l == Value.none) = true) from Bool.false_ne_true)]
  show wpAny _ _ (field (.ref it) 1 >>= _) _ _ s
  refine wpAny_bind (wpAny_field ho hd (x := .int i 0) rfl ?_)
  show wpAny _ _ (seqItems? (.ref l) >>= _) _ _ s
  refine wpAny_bind (wpAny_seqItems hol hdl ?_)
  simp only [Int.toNat_natCast, hx]
  refine wpAny_bind (wpAny_setField ho hd (by simp) (wpAny_pure ⟨v, rfl, wpAny_pure (hQ _ ?_ (Heap.SameBut.update ..))⟩))
  exact ⟨_, Heap.get?_update_self _ ho (Obj.isFreed_of_fields (Obj.data_mapFields hd _)), (Obj.cls_mapFields ..).trans hc, by rw [Obj.data_mapFields hd]; simp [rawInt]⟩
theorem next_end {it l : Addr} {i : Nat} {items : Array Value} {Q : Option Value → Shared → Prop} (hh : A.handled = none) (hit : s.heap.IsListIter it l i) (hl : IsSeq s.heap l items) (hx : items[i]? = none)
    (hQ : ∀ h', Heap.ExtBut it s.heap h' → Q none { s with heap := h' }) : wpAny (model prog w) A (pyNext (.ref it)) Q E s := by
  obtain ⟨o, ho, hc, hd⟩ := id hit
  obtain ⟨ol, hol, nl, hdl⟩ := hl
  unfold pyNext
  refine wpAny_bind (wpAny_attempt (wpAny_callSpecial?_slot (name := Str.ofString "__next__") hit.typeIs slot_listiter_next (wpAny_call_entry slot_listiter_next hit.typeIs entry_listiter_next ?_ (args_listiter_next _))))
  show wpAny _ _ (field (.ref it) 0 >>= _) _ _ s
  refine wpAny_bind (wpAny_field ho hd (x := .ref l) rfl ?_)
  show wpAny _ _ (if (Value.ref l == Value.none) = true then _ else _) _ _ s
  rw [if_neg (show ¬ ((Value.ref l == Value.none) = true) from Bool.false_ne_true)]
  show wpAny _ _ (field (.ref it) 1 >>= _) _ _ s
  refine wpAny_bind (wpAny_field ho hd (x := .int i 0) rfl ?_)
  show wpAny _ _ (seqItems? (.ref l) >>= _) _ _ s
  refine wpAny_bind (wpAny_seqItems hol hdl ?_)
  simp only [Int.toNat_natCast, hx]
  refine wpAny_bind (wpAny_rule (wpAny_bind (wpAny_setField ho hd (by simp) ?_)))
  show wpAny _ _ (newExc (.type "StopIteration") [] >>= _) _ _ _
  refine wpAny_bind ?_
  simp only [newExc, newTuple]
  refine wpAny_bind (wpAny_newObj_type ?_ (by size_fits))
  refine wpAny_bind (m := firstArgMember _ _) (wpAny_of_eq (a := Value.none) (by first | rfl | (simp only [firstArgMember]; rfl)) ?_)
  refine wpAny_newObj_type ?_ (by size_fits)
  simp only [raiseNew]
  refine wpAny_bind (wpAny_handled ?_)
  rw [show A.in1.handled = none from hh]
  refine wpAny_bind (wpAny_pure (wpAny_throw ?_))
  refine wpAny_bind (wpAny_isInstance (T := "StopIteration") (b := true) ⟨_, Heap.get?_push_size _ rfl, rfl⟩ isSubtype_stop ?_)
  exact wpAny_pure (hQ _ (((Heap.SameBut.update ..).extBut.push _).push _))
theorem acc_walks (hh : A.handled = none) (I ax : Addr) (hne : ax ≠ I) (items : Array Value) (Ts : Nat → Addr) (vals : Nat → Array Value)
    (hit : ∀ j, j < items.size → items[j]? = some (.ref (Ts j))) (hTI : ∀ j, j < items.size → Ts j ≠ I) :
    WalksU prog w A I (I :: ax :: (List.range items.size).map Ts) [I] items.size (fun j v => v = vals j)
      (fun j h => h.IsListIter I ax j ∧ IsSeq h ax items ∧ ∀ k, k < items.size → h.IsTuple (Ts k) (vals k))
      (fun j T h => (j < items.size ∧ T = Ts j) ∧ h.IsListIter I ax (j + 1) ∧ IsSeq h ax items ∧ ∀ k, k < items.size → h.IsTuple (Ts k) (vals k)) where
  sub := fun b hb => by simp at hb; simp [hb]
  frame := fun _ _ _ st hk => ⟨st.1.at fun o e => hk I (by simp) o e, st.2.1.at fun o e => hk ax (by simp) o e,
    fun k hk' => (st.2.2 k hk').at fun o e => hk (Ts k) (List.mem_cons_of_mem _ (List.mem_cons_of_mem _ (List.mem_map.mpr ⟨k, List.mem_range.mpr hk', rfl⟩))) o e⟩
  item := fun i s Q E hi st hQ => by
    refine next_item st.1 st.2.1 (v := .ref (Ts i)) (hit i hi) fun h' hit' hs' => ?_
    have tup : ∀ k, k < items.size → h'.IsTuple (Ts k) (vals k) := fun k hk' => (st.2.2 k hk').extBut hs'.extBut (hTI k hk')
    exact hQ (Ts i) (vals i) h' s.toks rfl (tup i hi) ⟨⟨hi, rfl⟩, hit', st.2.1.at fun o e => hs'.extBut _ _ hne e, tup⟩ fun b o hb e => hs'.extBut b o (fun h => hb (by simp [h])) e
  go := fun _ _ _ _ _ s Q _ hm hQ => wpAny_letOwnedTupleGo_listiter hm.2.1 (hQ s.heap hm.2 fun _ _ _ e => e)
  apart := fun j T _ hm hmem => by
    rcases List.mem_cons.mp hmem with e | e
    · exact hTI j hm.1.1 (hm.1.2 ▸ e)
    · cases e
  done := fun s Q E st hQ => next_end hh st.1 st.2.1 (by simp) fun h' he' => hQ h' s.toks fun b o hb e => he' b o (fun h => hb (by simp [h])) e
  self := fun _ _ _ _ st hQ => wpAny_pyIter_listiter st.1 hQ
theorem acc_iter {x dx : Addr} {its : Array Value} {n : Nat} {od : Obj} {Q : Value → Shared → Prop} (X : (hd.heap_1 w.params).In s.heap) (h1 : s.heap.get? x = some (accObj dx its n)) (h2 : s.heap.get? dx = some od)
    (hQ : Q (.ref s.heap.objs.size) { s with heap := s.heap.push { cls := .type "list_iterator", data := .fields #[.ref x, .int 0 0] } }) : wpAny (model prog w) A (pyIter (.ref x)) Q E s := by
  have I := acc_inst h1 h2
  have e1 : findIn (hd.heap_1 w.params) (.ref 107) "__iter__" = some (some (.builtin "list.__iter__")) := by k_is
  have hcall : wpAny (model prog w) A (call (.builtin "list.__iter__") [.ref x]) (OwitIt (model prog w) A Q E) E s := by
    refine wpAny_call (codeAny_call_builtin F.slot_list_iter.plain F.entry_list_iter (check_slot (owner := "list") (n := "__iter__") (by decide +kernel) (by decide +kernel) (acc_isList w X I) (F.args_list_iter_1 _) ?_))
    show wpAny _ _ (do ret (← newFields "list_iterator" [.ref x, rawInt 0])) _ _ s
    refine wpAny_bind (wpAny_newObj_type (wpAny_pure ?_))
    show OwitIt _ _ _ _ _ _
    unfold OwitIt
    exact wpAny_specialOf ⟨_, Heap.get?_push_size _ rfl, rfl⟩ slot_listiter_next.lookup hQ
  have fin : wpAny (model prog w) A (call (.builtin "list.__iter__") [.ref x] >>= fun v => pure (some v)) (fun r s' => ∃ v, r = some v ∧ OwitIt (model prog w) A Q E v s') E s :=
    wpAny_bind (wpAny_mono hcall (fun v s' h' => wpAny_pure ⟨v, rfl, h'⟩) fun _ _ z => z)
  have one : ∀ refuse : Sem Value, wpAny (model prog w) A (callSpecialIfBoundUnlessNone? (.ref x) "__iter__" refuse) (fun r s' => ∃ v, r = some v ∧ OwitIt (model prog w) A Q E v s') E s := by
    intro refuse
    simp only [callSpecialIfBoundUnlessNone?, bindSpecialIfBound?]
    refine wpAny_holding (wpAny_bind (wpAny_bind (wpAny_bind (I.type.here ((looks_findIn X e1).here ?_)))))
    refine wpAny_bind (wpAny_askSetting (wpAny_ite ?_))
    have fin2 : wpAny (model prog w) A (if (Value.builtin "list.__iter__" == Value.none) = true then (refuse >>= fun v => pure (some v)) else (call (.builtin "list.__iter__") [.ref x] >>= fun v => pure (some v))) (fun r s' => ∃ v, r = some v ∧ OwitIt (model prog w) A Q E v s') E s := by
      rw [if_neg (show ¬ ((Value.builtin "list.__iter__" == Value.none) = true) from Bool.false_ne_true)]
      exact fin
    split
    · rw [F.slot_list_iter.bind]; exact wpAny_bind (wpAny_pure (wpAny_pure (by exact fin2)))
    · rw [F.slot_list_iter.bind]; exact wpAny_tryCatch (wpAny_bind (wpAny_pure (wpAny_pure (by exact fin2))))
  unfold pyIter
  refine wpAny_bind (wpAny_bind (I.type.here ((looks_findIn X e1).here ?_)))
  show wpAny (model prog w) A (callSpecialIfBoundUnlessNone? (.ref x) "__iter__" _ >>= _) Q E s
  refine wpAny_bind (wpAny_mono (one _) (fun r s' hr => ?_) fun _ _ z => z)
  obtain ⟨v, rfl, hv⟩ := hr
  refine wpAny_bind (wpAny_mono hv (fun r s₂ hr => ?_) fun _ _ z => z)
  cases r with
  | none => exact hr.elim
  | some g => exact wpAny_pure hr
end
end Mine

-- Acc3
theorem Mine.gap_Acc3 : True ∧ True := by w_top off; walk1 <;> trivial
namespace Mine
open PySem PySem.W PySem.Calls PyProof.Rows
set_option maxRecDepth 100000
theorem kf_start3 (w : World) : PySem.Challenge.rw_zd0009_01 = PySem.Challenge.rw_zd0009_01 → findIn (hd.heap_1 w.params) (.ref 107) "__getattr__" = some none := by k_fill; intro _; k_is
theorem lga_entry : entryFor table "list.__getattribute__" = some Builtin.«object.__getattribute__» := entryFor_alias (id' := "object.__getattribute__") (by rw [fastTable_eq_tree]; kernel_rfl) (by decide +kernel) (by decide +kernel) (by rw [fastTable_eq_tree]; kernel_rfl)
theorem lga_args (a b : Value) : argsOk "list.__getattribute__" ⟨[a, b], []⟩ := by unfold argsOk; kernel_rfl
theorem lga_plain : plainId "list.__getattribute__" = true := by decide +kernel
theorem lga_kind : builtinKind "list.__getattribute__" = some .slot := by decide +kernel
theorem lga_split : splitId "list.__getattribute__" = some ("list", "__getattribute__") := by decide +kernel
theorem lga_bind (self : Value) : bindSpecial (.builtin "list.__getattribute__") self = pure (.builtin "list.__getattribute__", [self]) :=
  (Slot.of (T := "list") (name := "__getattribute__") (owner := "list") (n := "__getattribute__") (by rw [typeLookup_type, builtinLookup_eq_fast]; kernel_rfl) (by decide +kernel) (by decide +kernel) (by decide +kernel) (.inl (by decide +kernel)) (by rw [isSubtype_type]; kernel_rfl)).bind self
section
variable {prog : Program} {w : World} {A : Around} {E : Value → Shared → Prop} {s : Shared}
theorem call_lga {self nm : Value} {Q : Value → Shared → Prop} (hi : Looks (model prog w) s.heap (isInstance self (.type "list")) true)
    (h : wpAny (model prog w) A.in1 (Builtin.«object.__getattribute__» ⟨[self, nm], []⟩) (fun fin s' => ∃ v, fin = .done (.ret v) ∧ Q v s') E s) : wpAny (model prog w) A (call (.builtin "list.__getattribute__") [self, nm]) Q E s := by
  refine wpAny_call (codeAny_call_builtin lga_plain lga_entry (check_slot (i := "list.__getattribute__") (owner := "list") (n := "__getattribute__") (self := self) (rest := [nm]) (kw := []) lga_kind lga_split hi (lga_args _ _) (wpAny_mono h (fun fin s' h' => ?_) fun _ _ h' => h')))
  obtain ⟨v, rfl, hv⟩ := h'; exact hv
set_option maxHeartbeats 800000 in
theorem acc_attr {x dx : Addr} {its : Array Value} {n : Nat} {od : Obj} {name : Str} {ex : Bool} {v : Value} {Q : Value → Shared → Prop} (X : (hd.heap_1 w.params).In s.heap) (h1 : s.heap.get? x = some (accObj dx its n)) (h2 : s.heap.get? dx = some od)
    (hf : findObj (hd.heap_1 w.params) 107 (some od) name = some (.value v)) (hh : handedIn v = true) (h : Q v { s with toks := s.toks + 1 }) : wpAny (model prog w) A (getAttr (.ref x) name ex) Q E s := by
  have I := acc_inst h1 h2
  have e1 : findIn (hd.heap_1 w.params) (.ref 107) "__getattribute__" = some (some (.builtin "list.__getattribute__")) := by k_is
  have e2 : findIn (hd.heap_1 w.params) (.ref 107) "__getattr__" = some none := by k_is
  obtain ⟨hh', g, d, t, os⟩ := s
  have L0 := I.type (M := model prog w)
  have L1 := looks_findIn (M := model prog w) X e1
  have L2 := looks_findIn (M := model prog w) X e2
  have L3 := looks_find (M := model prog w) X I hf
  unfold getAttr getAttrBy
  refine wpAny_bind (wpAny_mkText (wpAny_holding (wpAny_bind (L0.at (wpAny_bind (L1.at ?_))))))
  show wpAny _ _ (getAttrByItsOwn _ _ _ _ _ _) _ _ _
  unfold getAttrByItsOwn hookBefore
  refine wpAny_bind ?_
  show wpAny _ _ (typeLookup (.ref 107) "__getattr__") _ _ _
  refine L2.at ?_
  refine wpAny_bind (wpAny_attempt (wpAny_holding ?_))
  unfold callGetattribute
  have c : (ex && onTheHeap (Value.builtin "list.__getattribute__")) = false := by cases ex <;> rfl
  rw [c]
  simp only [Bool.false_eq_true, if_false]
  unfold boundAndCalled
  rw [lga_bind]
  refine wpAny_bind (wpAny_pure ?_)
  show wpAny _ _ (call (.builtin "list.__getattribute__") [.ref x, .str name t]) _ _ _
  refine call_lga (acc_isList w X I) ?_
  unfold Builtin.«object.__getattribute__»
  refine wpAny_bind (wpAny_pure ?_)
  refine wpAny_bind (wpAny_pure ?_)
  refine wpAny_bind (L0.at (wpAny_bind (L3.at ?_)))
  refine wpAny_pure ⟨v, rfl, ?_⟩
  show wpAny _ _ (handedOut v) _ _ _
  rw [handedOut_of hh]; exact wpAny_pure h
end
end Mine

-- FTurned
theorem Mine.gap_FTurned : True ∧ True := by w_top off; walk1 <;> trivial
namespace Mine
open PySem PySem.W PySem.Calls PyProof.Rows
set_option maxRecDepth 100000
local macro_rules | `(tactic| walk_at "execs cons") => `(tactic| ((refine wpAny_execs_cons (gen_toks fun tk => hideQ fun _ _ => ?_)); (try dsimp only)))
local macro_rules | `(tactic| walk_at "Hid") => `(tactic| (refine unhide (by assumption) ?_))
local macro_rules | `(tactic| walk_at "execs nil") => `(tactic| ((refine wpAny_execs_nil ?_); (try dsimp only)))
local macro_rules | `(tactic| walk_at "pyIter ref") => `(tactic| ((with_reducible show wpAny _ _ (pyIter _) _ _ _); refine Halt.of ?_))
local macro_rules | `(tactic| walk_at "call builtin:len") => `(tactic| (k_here; (with_reducible show wpAny _ _ (call (Value.builtin "len") [Value.ref _]) _ _ _); k_dflt (refine' kst_len ?k1 ?k2 rfl ?k4 ?_; (case k1 => k_asm); (case k2 => exact List.mem_cons_self); (case k4 => omega); k_whole)))
local macro_rules | `(tactic| walk_at "call builtin:list.append") => `(tactic| (k_here; (with_reducible show wpAny _ _ (call (Value.builtin "list.append") [Value.ref _, _]) _ _ _); k_dflt (refine' append_K ?k1 ?k2 (Upd.head ?k3) ?_ ?k4; (case k1 => k_asm); (case k2 => k_asm); (case k3 => assumption); (case k4 => (simp only [List.size_toArray, sizeLine_eq]; omega)); k_whole); intro h' F' N'))
local macro_rules | `(tactic| walk_at "ite") => `(tactic| first | with_reducible refine ite_tt ?_ | with_reducible refine ite_ff ?_ | (with_reducible refine split_ine ?_ ?_ <;> intro _) | (with_reducible refine split_ieq ?_ ?_ <;> intro _) | with_reducible refine split_not ?_ | (refine split_dec ?_ ?_ <;> intro _) | (refine split_bool ?_ ?_ <;> intro _) | rw [if_pos True.intro] | rw [if_neg not_false])
local macro_rules | `(tactic| walk_at "InvPostN") => `(tactic| ((with_reducible show InvPostN _ _ _ _ _ _ _ _ _); refine Halt.of ?_))
/-- bit number k of c -/
def cb (c : Int) (k : Int) : Int := (c.fdiv (2 ^ k.toNat)).fmod 2
def tBit (bs : List Bool) (c pl : Int) (hi lo : Int) (idx : Nat) : Bool := (tb bs lo.toNat hi.toNat != (cb c lo != cb c hi)) != decide ((idx : Int) = pl)
def inF (bs : List Bool) (c pl : Int) (hi : Int) (acc : List Bool) (los : List Int) : List Bool := los.foldl (fun a lo => a ++ [tBit bs c pl hi lo a.length]) acc
def outF (bs : List Bool) (c pl : Int) (his : List Int) : List Bool := his.foldl (fun a hi => inF bs c pl hi a (rangeKs 0 hi.toNat)) []
def one (b : Bool) : Str := if b then Str.ofString "x" else Str.ofString " "
def turned (bs : List Bool) (p : Nat) (c pl : Int) : List Bool := outF bs c pl (downKs ((p : Int) - 1) (p - 1))
theorem tbit_of {bs : List Bool} {c pl : Int} {hi lo idx : Nat} {b x y : Bool} (h1 : tb bs lo hi = b) (h2 : (cb c (lo : Int) != cb c (hi : Int)) = x) (h3 : decide ((idx : Int) = pl) = y) : tBit bs c pl hi lo idx = ((b != x) != y) := by
  unfold tBit
  rw [Int.toNat_natCast, Int.toNat_natCast, h1, h2, h3]
theorem inF_snoc (bs : List Bool) (c pl hi : Int) (acc : List Bool) (los : List Int) (lo : Int) : inF bs c pl hi acc (los ++ [lo]) = inF bs c pl hi acc los ++ [tBit bs c pl hi lo (inF bs c pl hi acc los).length] := by
  unfold inF; rw [List.foldl_append]; rfl
theorem turn_next {bs : List Bool} {c pl hi : Int} {acc : List Bool} {los : List Int} {lo : Int} {us : List Value} {y : Str} {t : Tok} (h : StrsAre us ((inF bs c pl hi acc los).map one)) (e : one (tBit bs c pl hi lo (inF bs c pl hi acc los).length) = y) :
    StrsAre (us ++ [.str y t]) ((inF bs c pl hi acc (los ++ [lo])).map one) := by
  rw [inF_snoc, List.map_append, List.map_cons, List.map_nil, e]
  exact strs_snoc h y t
theorem sub_head {x : Addr × Obj} {r r' : List (Addr × Obj)} (h : ∀ q ∈ r, q ∈ r') : ∀ q ∈ x :: r, q ∈ x :: r' := fun q hq => by
  rcases List.mem_cons.mp hq with rfl | hq
  · exact List.mem_cons_self
  · exact List.mem_cons_of_mem _ (h q hq)
theorem outF_snoc (bs : List Bool) (c pl : Int) (his : List Int) (hi : Nat) : outF bs c pl (his ++ [(hi : Int)]) = inF bs c pl hi (outF bs c pl his) (rangeKs 0 hi) := by
  unfold outF; rw [List.foldl_append]; rfl
theorem one_eq (b : Bool) : one b = ⟨#[sgn b]⟩ := by cases b <;> decide +kernel
theorem one_sum (l : List Bool) : ((l.map one).map (·.length)).sum = l.length := by
  induction l with
  | nil => rfl
  | cons b r ih =>
    rw [List.map_cons, List.map_cons, List.sum_cons, ih, one_eq, List.length_cons]
    show 1 + r.length = _
    omega
theorem join_one (l : List Bool) : Txt.join (Str.ofString "") (l.map one) = txt l := by
  have e : l.map one = signs (txt l) := by
    unfold signs txt
    simp [one_eq]
  rw [Txt.join, StrLaws.glued_eq_join, e]
  exact join_nil_signs _
theorem td_small : ∀ n, n < 6 → Builtin.Range.small (((n : Nat) : Int) - 1) 0 (-1) = true := by decide +kernel
theorem td_size : ∀ n, n < 6 → 1 ≤ n → Builtin.Range.rangeSize (((n : Nat) : Int) - 1) 0 (-1) = ((n - 1 : Nat) : Int) := by decide +kernel
theorem td_hi {n m : Nat} {k : Int} (h : 1 ≤ n) (h1 : k = ((n : Int) - 1) - (m : Int)) (h2 : m < n - 1) : ∃ hi : Nat, k = (hi : Int) ∧ hi = n - 1 - m := ⟨n - 1 - m, by omega, rfl⟩
theorem td_f : ∀ n, n < 6 → ∀ m, m < n - 1 → n - 1 - m < n ∧ n - 1 - m < 5 := by decide +kernel
theorem td_l : ∀ n, n < 6 → ∀ m, m < n - 1 → ∀ l, l < n - 1 - m → 5 * m + l ≤ 100 := by decide +kernel
theorem td_e : ∀ n, n < 6 → 5 * (n - 1) ≤ 16777216 := by decide +kernel
set_option maxHeartbeats 4000000 in
theorem turned_spec (w : World) (p : Program) (loose : List Str) (mean : ExcName → Option Value) (mg mb : Str → Option Value) (bs : List Bool) (n : Nat) (c pl : Int) (t t1 t2 t3 : Tok) (news : List (Addr × Obj)) (hz : Sz bs.length n) (hc0 : 0 ≤ c) (hc1 : c < 32) (hp0 : 0 ≤ pl) (hp1 : pl < 32) :
    Spec w p loose mean mg mb 2 144 news [.str (txt bs) t, .int (n : Int) t1, .int c t2, .int pl t3] (fun r tl => tl = [] ∧ ∃ t', r = .str (txt (turned bs n c pl)) t') := by
  unfold Spec
  k_fill
  intro dp un gd cn cs a ccd cl outer A₀ base h₀ L m s Q E B F X N T hk hdp hun hret
  have hdp' : dp + 1 < recursionLimit := by omega
  have hn5 : n ≤ 1000 := Nat.le_trans (Nat.le_of_lt (sz_lt hz)) (by decide)
  have kMark : KstMark := kstMark
  refine wpAny_call ?_
  k_dflt (refine' code_def ?k1 ?k2 ?k3 ?k4 ?k5 ?kA ?kF ?kK ?k6 ?k7 ?k8 ?k9 ?kB ?_ ?c2 ?c3 ?c4 ?c5; (case kA => exact rfl); (case kF => exact rfl); (case kK => assumption); (case k1 => k_asm); (case k2 => k_asm); (case k3 => k_asm); (case k4 => k_asm); (case k5 => k_asm); (case k6 => k_is); (case k7 => k_is); (case k8 => (first | exact room_of (dp := dp) hdp (by decide) | exact room_of2 (dp := dp) hdp (by decide) | ktr_room)); (case k9 => exact BindsTo.of_eq rfl); (case c5 => decide); (case kB => exact locs rfl); (case c2 => exact rfl); (case c3 => exact rfl); (case c4 => exact rfl); k_whole)
  intro g' L' h' FG' F' N' B' X' T'
  (try dsimp only)
  (try k_lift B')
  (try k_fold)
  (try refine wpAny_noRaise ?_)
  replace F' : Fr g' L' h' (loc [(Str.ofString "place", .int pl t3), (Str.ofString "chosen", .int c t2), (Str.ofString "people", .int (n : Int) t1), (Str.ofString "text", .str (txt bs) t)]) := F'
  k_steps
  rename_i ls hA l1 hB F1 N1 tkG Qg hQg hC tkC tr1 tr2 tr3 hR F2 N2 hkeep
  show wpAny _ _ (pyIter _) _ _ _
  refine kst_rangeD (n := n - 1) (fun c : List Value × Nat => (ls, listOf c.1.toArray c.2) :: news) (fun _ => []) (fun _ => True) [Str.ofString "low", Str.ofString "tied"] (fun pre d => StrsAre d.1 ((outF bs c pl pre).map one) ∧ d.1.length ≤ 5 * pre.length) ([], 0) rfl hR ?_ ?_ F2 N2 trivial (fun _ hp => nomatch hp) ⟨.nil, by simp⟩ ?_ ?_
  · exact td_small n (sz_lt hz)
  · exact td_size n (sz_lt hz) (sz_pos hz)
  · rintro ⟨us, ep⟩ pre k tk1 u h tk own hk1 hk2 hoff - ⟨hP, hPl⟩ F3 N3
    dsimp only at hP hPl N3 ⊢
    obtain ⟨hi, hk3, hhi⟩ : ∃ hi : Nat, k = (hi : Int) ∧ hi = n - 1 - pre.length := td_hi (sz_pos hz) hk1 hk2
    subst hk3
    k_steps
    show wpAny _ _ (pyIter _) _ _ _
    rename_i tkG4 Qg4 hQg4 hC4 tkC4 tr4 tr5 tr6 hR4 F4 N4 hkeep4
    refine kst_range (n := hi) (fun c : List Value × Nat => (ls, listOf c.1.toArray c.2) :: (news ++ own)) (fun _ => []) (fun _ => True) [Str.ofString "tied"] (fun los d => StrsAre d.1 ((inF bs c pl hi (outF bs c pl pre) los).map one) ∧ d.1.length ≤ 5 * pre.length + los.length) (us, ep) rfl hR4 ?_ ?_ F4 N4 trivial (fun _ hp => nomatch hp) ⟨hP, hPl⟩ ?_ ?_
    · exact small_nat (a := 0) (by decide) (hhi ▸ Nat.lt_trans (td_f n (sz_lt hz) pre.length hk2).2 (by decide))
    · rw [rangeSize_nat]; congr 1
    · rintro ⟨us, ep⟩ los k5 tk5 u5 h5 tk5' own5 hk5 hk6 hoff5 - ⟨hP5, hPl5⟩ F5 N5
      dsimp only at hP5 hPl5 N5 ⊢
      obtain ⟨lo, hk7, hlo⟩ : ∃ lo : Nat, k5 = (lo : Int) ∧ lo = los.length := ⟨los.length, hk5.trans (Int.zero_add _), rfl⟩
      subst hk7
      obtain ⟨f1, f2⟩ := td_f n (sz_lt hz) pre.length hk2
      rw [← hhi] at f1 f2
      have b1 : (hi : Int) < 5 := Int.ofNat_lt.mpr f2
      have f3 : lo < hi := hlo ▸ hk6
      have f4 : lo < n := Nat.lt_trans f3 f1
      have f5 : lo ≠ hi := Nat.ne_of_lt f3
      have f6 : us.length ≤ 100 := Nat.le_trans hPl5 (hlo ▸ td_l n (sz_lt hz) pre.length hk2 lo (hhi ▸ f3))
      have b2 : (lo : Int) < 5 := Int.ofNat_lt.mpr (Nat.lt_trans f3 f2)
      have b7 : (us.length : Int) < 2 ^ 63 := Int.ofNat_lt.mpr (Nat.lt_of_le_of_lt f6 (by decide) : _ < 2 ^ 63)
      have b8 : us.length ≤ 16777216 := Nat.le_trans f6 (by decide)
      have hap : ∀ q ∈ news ++ own ++ own5, q.1 ≠ ls := by
        intro q hq
        rcases List.mem_append.mp hq with hq | hq
        · rcases List.mem_append.mp hq with hq | hq
          · exact Nat.ne_of_lt (l1 q hq)
          · exact hoff q hq ls List.mem_cons_self
        · exact hoff5 q hq ls List.mem_cons_self
      simp only [List.cons_append] at N5
      k_steps
      k_dflt (refine' tied_spec w p loose mean mg mb bs n lo hi _ _ _ _ hz f4 f1 f5 _ _ _ _ _ _ _ _ _ _ _ _ _ _ _ _ _ ?k1 ?k2 ?k3 ?k4 ?k5 ?k6 ?k7 ?k8 ?_; (case k1 => k_asm); (case k2 => k_asm); (case k3 => k_asm); (case k4 => k_asm); (case k5 => k_asm); (case k6 => exact rfl); (case k7 => (first | exact room_of (dp := dp) hdp (by decide) | exact room_of2 (dp := dp) hdp (by decide) | ktr_room)); (case k8 => (first | exact (units_of (un := un) (d := 2) (k := 3) (d' := 1) hun (by decide)) | exact (units_of (un := un) (d := 2) (k := 3) (d' := 2) hun (by decide)) | exact (units_of (un := un) (d := 2) (k := 3) (d' := 4) hun (by decide)) | exact (units_of (un := un) (d := 2) (k := 4) (d' := 1) hun (by decide)) | exact (units_of (un := un) (d := 2) (k := 4) (d' := 2) hun (by decide)) | exact (units_of (un := un) (d := 2) (k := 4) (d' := 4) hun (by decide)) | exact (units_at (un := un) (d := 2) (k := 3) (j := 64) hun (by decide)) | ktr_units)))
      rintro r tl h9 tk9 F9 N9 ⟨rfl, rfl⟩
      simp only [List.nil_append] at N9
      dsimp only
      k_steps
      all_goals (
        unfold Halt
        show InvEndN _ _ _ _ _ _ _
        have hlen : us.length = (inF bs c pl hi (outF bs c pl pre) los).length := by rw [StrsAre.length hP5, List.length_map]
        first
          | have q2 : (cb c (lo : Int) != cb c (hi : Int)) = true := bne_iff_ne.mpr (by unfold cb; assumption)
          | have q2 : (cb c (lo : Int) != cb c (hi : Int)) = false := bne_eq_false_iff_eq.mpr (by unfold cb; assumption)
        first
          | have q3 : decide ((us.length : Int) = pl) = true := decide_eq_true (by assumption)
          | have q3 : decide ((us.length : Int) = pl) = false := decide_eq_false (by assumption)
        first
          | have q1 : tb bs lo hi = true := by assumption
          | have q1 : tb bs lo hi = false := by assumption
        have q4 := tbit_of q1 q2 q3
        (rename News _ _ _ _ => N8)
        (simp only [List.push_toArray] at N8)
        refine kst_end (⟨_, _⟩) (by assumption) N8 (sub_head fun q hq => List.mem_append_left _ hq) (fun q hq => List.mem_cons_of_mem _ (List.mem_append_right _ hq)) rfl trivial (fun _ hp => nomatch hp) (by intro z h1 _ h3; have h4 : z ≠ Str.ofString "tied" := (by rintro rfl; exact absurd h3 (by decide +kernel)); simp only [if_neg h1, if_neg h4, kstB, h3, Bool.false_eq_true, if_false]) ⟨turn_next hP5 (by rw [← hlen, q4]; first | done | rfl), ?_⟩
        rw [List.length_append, List.length_append]; exact Nat.add_le_add_right hPl5 1)
    · rintro ⟨us6, ep6⟩ u6 h6 tk6 - ⟨hP6, hPl6⟩ F6 N6
      dsimp only at hP6 hPl6 N6 ⊢
      k_steps
      unfold Halt
      show InvEndN _ _ _ _ _ _ _
      refine kst_end (⟨_, _⟩) (by assumption) N6 (sub_head fun q hq => List.mem_append_left _ hq) (fun q hq => List.mem_cons_of_mem _ (List.mem_append_right _ hq)) rfl trivial (fun _ hp => nomatch hp) ?_ ⟨?_, ?_⟩
      · intro z h1 _ h3
        have h4 : z ≠ Str.ofString "low" := (by rintro rfl; exact absurd h3 (by decide +kernel))
        have h5 : z ≠ Str.ofString "tied" := (by rintro rfl; exact absurd h3 (by decide +kernel))
        have h6 : ([Str.ofString "tied"] : List Str).contains z = false := by simp [h5]
        simp only [if_neg h1, if_neg h4, kstB, h3, h6, Bool.false_eq_true, if_false]
      · rw [outF_snoc]; exact hP6
      · rw [rangeKs_length] at hPl6
        rw [List.length_append, List.length_cons, List.length_nil]
        show us6.length ≤ _
        exact Nat.le_trans hPl6 (Nat.add_le_add_left (hhi ▸ Nat.le_of_lt (td_f n (sz_lt hz) pre.length hk2).2) _)
  · rintro ⟨us6, ep6⟩ u6 h6 tk6 - ⟨hP6, hPl6⟩ F6 N6
    dsimp only at hP6 hPl6 N6 ⊢
    k_steps
    have hl6 := StrsAre.length hP6
    rw [List.length_map] at hl6
    rw [downKs_length] at hPl6
    refine join_list (News.isList N6 List.mem_cons_self) hP6 ?_ ?_
    · rw [one_sum]
      have : (Str.ofString "").length = 0 := by decide +kernel
      rw [this, Nat.mul_zero, Nat.add_zero, ← hl6]; exact Nat.le_trans hPl6 (td_e n (sz_lt hz))
    · intro t9 k9
      rw [join_one]
      k_steps
      refine hret _ [] _ _ (by assumption) (sub_news (by assumption) (fun p hp => by repeat (first | exact hp | apply List.mem_cons_of_mem))) ⟨rfl, t9, rfl⟩
end Mine

section
open PySem PySem.W PySem.Calls PyProof.Rows Mine
local macro_rules | `(tactic| walk_at "execs cons") => `(tactic| ((refine wpAny_execs_cons (gen_toks fun tk => hideQ fun _ _ => ?_)); (try dsimp only)))
local macro_rules | `(tactic| walk_at "Hid") => `(tactic| (refine unhide (by assumption) ?_))
local macro_rules | `(tactic| walk_at "execs nil") => `(tactic| ((refine wpAny_execs_nil ?_); (try dsimp only)))
local macro_rules | `(tactic| walk_at "pyIter ref") => `(tactic| ((with_reducible show wpAny _ _ (pyIter _) _ _ _); refine Halt.of ?_))
local macro_rules | `(tactic| walk_at "call builtin:len") => `(tactic| (k_here; (with_reducible show wpAny _ _ (call (Value.builtin "len") [Value.ref _]) _ _ _); k_dflt (refine' kst_len ?k1 ?k2 rfl ?k4 ?_; (case k1 => k_asm); (case k2 => exact List.mem_cons_self); (case k4 => omega); k_whole)))
local macro_rules | `(tactic| walk_at "call builtin:list.append") => `(tactic| (k_here; (with_reducible show wpAny _ _ (call (Value.builtin "list.append") [Value.ref _, _]) _ _ _); k_dflt (refine' append_K ?k1 ?k2 (Upd.head ?k3) ?_ ?k4; (case k1 => k_asm); (case k2 => k_asm); (case k3 => assumption); (case k4 => (simp only [List.size_toArray, sizeLine_eq]; omega)); k_whole); intro h' F' N'))
local macro_rules | `(tactic| walk_at "ite") => `(tactic| first | with_reducible refine ite_tt ?_ | with_reducible refine ite_ff ?_ | (with_reducible refine split_ine ?_ ?_ <;> intro _) | (with_reducible refine split_ieq ?_ ?_ <;> intro _) | with_reducible refine split_not ?_ | (refine split_dec ?_ ?_ <;> intro _) | (refine split_bool ?_ ?_ <;> intro _) | rw [if_pos True.intro] | rw [if_neg not_false])
local macro_rules | `(tactic| walk_at "InvPostN") => `(tactic| ((with_reducible show InvPostN _ _ _ _ _ _ _ _ _); refine Halt.of ?_))

-- FRows
theorem Mine.gap_FRows : True ∧ True := by w_top off; walk1 <;> trivial
namespace Mine
open PySem PySem.W PySem.Calls PyProof.Rows
set_option maxRecDepth 100000
local macro_rules | `(tactic| walk_at "CompSrc") => `(tactic| ((with_reducible show LCg.CompSrc _ _ _ _ _ _ _ _ _ _ _ _ _ _); refine Halt.of ?_))
local macro_rules | `(tactic| walk_at "CompSrcT") => `(tactic| ((with_reducible show LCt.CompSrcT _ _ _ _ _ _ _ _ _ _ _ _ _ _ _); refine Halt.of ?_))
def rowT (bs : List Bool) (p i : Nat) : Str := ⟨(((List.range p).filter (fun j => j != i && tb bs i j)).map (97 + ·)).toArray⟩
def letter (j : Nat) : Str := ⟨#[97 + j]⟩
def lets (bs : List Bool) (k i : Nat) : List Str := ((List.range i).filter (fun j => j != k && tb bs k j)).map letter
theorem lets_succ (bs : List Bool) (k i : Nat) : lets bs k (i + 1) = lets bs k i ++ (if i != k && tb bs k i then [letter i] else []) := by
  unfold lets
  rw [List.range_succ, List.filter_append, List.map_append]
  by_cases h : (i != k && tb bs k i) = true
  · simp [h]
  · simp [h]
theorem letter_item {k n : Nat} {ln : Nat} (hz : Sz ln n) (h : k < n) : Txt.item (Str.ofString "abcde") (k : Int) = letter k := by
  have : ∀ k : Fin 5, Txt.item (Str.ofString "abcde") (k.val : Int) = letter k.val := by decide +kernel
  exact this ⟨k, by rcases hz with ⟨_, rfl⟩ | ⟨_, rfl⟩ <;> omega⟩
theorem lets_yes {bs : List Bool} {k i : Nat} {ys : List Value} (h : StrsAre ys (lets bs k i)) (h1 : i ≠ k) (h2 : tb bs k i = true) (t : Tok) {x : Str} (hx : x = letter i) : StrsAre (ys ++ [.str x t]) (lets bs k (i + 1)) := by
  subst hx
  rw [lets_succ, h2]
  simp only [bne_iff_ne.mpr h1, Bool.and_self, if_true]
  exact strs_snoc h _ t
theorem lets_no {bs : List Bool} {k i : Nat} {ys : List Value} (h : StrsAre ys (lets bs k i)) (h2 : i = k ∨ tb bs k i = false) : StrsAre ys (lets bs k (i + 1)) := by
  rw [lets_succ]
  have : (i != k && tb bs k i) = false := by
    rcases h2 with h2 | h2
    · simp [h2]
    · simp [h2]
  simp only [this, Bool.false_eq_true, if_false, List.append_nil]
  exact h
theorem join_lets (bs : List Bool) (n i : Nat) : Txt.join (Str.ofString "") (lets bs i n) = rowT bs n i := by
  have e : lets bs i n = signs (rowT bs n i) := by
    unfold signs rowT lets letter
    simp [Function.comp_def]
  rw [Txt.join, StrLaws.glued_eq_join, e]
  exact join_nil_signs _
theorem lets_len (bs : List Bool) (n i : Nat) : (lets bs i n).length ≤ n := by
  unfold lets
  rw [List.length_map]
  exact Nat.le_trans (List.length_filter_le _ _) (by simp)
theorem letter_sum (l : List Nat) : ((l.map letter).map (·.length)).sum = l.length := by
  induction l with
  | nil => rfl
  | cons b r ih =>
    rw [List.map_cons, List.map_cons, List.sum_cons, ih, List.length_cons]
    show 1 + r.length = _
    omega
theorem lets_sum (bs : List Bool) (n i : Nat) : ((lets bs i n).map (·.length)).sum ≤ n := by
  unfold lets
  rw [letter_sum]
  exact Nat.le_trans (List.length_filter_le _ _) (by simp)
set_option maxHeartbeats 4000000 in
theorem rows_spec (w : World) (p : Program) (loose : List Str) (mean : ExcName → Option Value) (mg mb : Str → Option Value) (bs : List Bool) (n : Nat) (t t1 : Tok) (news : List (Addr × Obj)) (hz : Sz bs.length n) :
    Spec w p loose mean mg mb 2 149 news [.str (txt bs) t, .int (n : Int) t1] (fun r tl => ∃ a us k, r = .ref a ∧ tl = [(a, listOf us.toArray k)] ∧ StrsAre us ((List.range n).map (rowT bs n))) := by
  unfold Spec
  k_fill
  intro dp un gd cn cs a ccd cl outer A₀ base h₀ L m s Q E B F X N T hk hdp hun hret
  have hdp' : dp + 1 < recursionLimit := by omega
  have hn5 : n ≤ 1000 := by rcases hz with ⟨_, h⟩ | ⟨_, h⟩ <;> omega
  have kMark : KstMark := kstMark
  refine wpAny_call ?_
  k_dflt (refine' code_defC ?k1 ?k2 ?k3 ?k4 ?k5 ?kA ?kF ?kK ?k6 ?k7 ?k8 ?k9 ?kB ?kD ?_ ?c2 ?c3 ?c4; (case kA => exact rfl); (case kF => exact rfl); (case kK => assumption); (case k1 => k_asm); (case k2 => k_asm); (case k3 => k_asm); (case k4 => k_asm); (case k5 => k_asm); (case k6 => k_is); (case k7 => k_is); (case k8 => (first | exact room_of (dp := dp) hdp (by decide) | exact room_of2 (dp := dp) hdp (by decide) | ktr_room)); (case k9 => exact BindsTo.of_eq rfl); (case kB => exact rfl); (case kD => decide +kernel); (case c2 => exact rfl); (case c3 => exact rfl); (case c4 => exact rfl); k_whole)
  intro g' L' h' tk' cells' FG' F' N' Y' B' X' T' l1
  (try k_lt l1)
  have hY := CellsAre.two Y'; obtain ⟨co1, co2, hE', cd1, cd2⟩ := hY; subst hE'; clear Y'
  (try simp only [List.cons_append, List.nil_append] at N')
  (try dsimp only)
  (try k_lift B')
  (try k_fold)
  (try refine wpAny_noRaise ?_)
  replace F' : Fr g' L' h' (fun y => if y = Str.ofString "people" then some (.int (n : Int) t1) else none) := F'
  replace cd1 : co1.data = .cell none := cd1
  replace cd2 : co2.data = .cell (some (.str (txt bs) t)) := cd2
  k_steps
  refine For_to ?_
  k_steps
  rename_i ls hA l1' hB F1 N1 tkG Qg hQg hC tkC tr1 tr2 tr3 hR F2 N2 hkeep
  refine loop_range n rfl hR ?_ ?_ F2 N2 (fun i m₁ news₁ g => g = s.gens ∧ m₁ = (fun y => if y = Str.ofString "rows" then some (Value.ref ls) else if y = Str.ofString "people" then some (.int (n : Int) t1) else none) ∧ ∃ us oc vc, oc.data = .cell vc ∧ news₁ = (ls, listOf us.toArray us.length) :: (L' + 1 + 1, oc) :: (L' + 1, co2) :: news ∧ StrsAre us ((List.range i).map (rowT bs n))) ⟨rfl, rfl, [], co1, _, cd1, rfl, .nil⟩ ?_ ?_
  · exact small_one (by omega) (by omega) (by omega) (by omega)
  · rw [rangeSize_nat]; congr 1
  · rintro I i oI t9 m₁ news₁ h tk g hi ⟨rfl, rfl, us, oc, vc, hoc, rfl, hP⟩ off lt F3 N3
    simp only [Int.zero_add]
    have c1 : ∀ q ∈ news, @Ne Nat q.1 (L' + 1 + 1) := fun q hq => Nat.ne_of_lt (Nat.lt_succ_of_lt (Nat.lt_succ_of_lt (l1 q hq)))
    refine assign_cell [(I, oI), (ls, listOf us.toArray us.length)] _ rfl rfl rfl F3 N3 hoc ?_ ?_ ?_
    · have a1 : I ≠ L' + 1 + 1 := fun e => off (L' + 1 + 1, oc) (List.mem_cons_of_mem _ List.mem_cons_self) e.symm
      have a2 : ls ≠ L' + 1 + 1 := Nat.ne_of_gt l1'.1
      exact List.forall_mem_cons.mpr ⟨a1, List.forall_mem_cons.mpr ⟨a2, List.forall_mem_nil _⟩⟩
    · exact List.forall_mem_cons.mpr ⟨Nat.ne_of_lt (Nat.lt_succ_self _), c1⟩
    intro o5 h5 hd5 F5 N5
    simp only [List.cons_append, List.nil_append] at N5
    k_steps
    rename_i hR5 F6 N6 hk6
    refine LCt.CompSrcT.range (n := n) rfl F6 N6 hR5 ?_ ?_ (by simp only [sizeLine_eq]; omega) ?_
    · exact small_one (by omega) (by omega) (by omega) (by omega)
    · rw [rangeSize_nat]; congr 1
    intro g9
    refine CompRestT.inv n (fun k ys nw => nw = (I, oI) :: (ls, listOf us.toArray us.length) :: (L' + 1 + 1, o5) :: (L' + 1, co2) :: news ∧ StrsAre ys (lets bs i k)) ?_ ?_ n 0 [] _ (by omega) ⟨rfl, .nil⟩
    · rintro ys nw ⟨rfl, hys⟩
      k_steps
      rename_i D8 h8 tk8 F8 N8 o8
      refine join_list (News.isList N8 List.mem_cons_self) hys ?_ ?_
      · have := lets_sum bs n i
        have e0 : (Str.ofString "").length = 0 := by decide +kernel
        have := lets_len bs n i
        rw [e0]; omega
      · intro t9 k9
        rw [join_lets]
        k_steps
        have a1 : I ≠ ls := fun e => off _ List.mem_cons_self e.symm
        obtain ⟨a2, a3, a4⟩ := l1'
        have a5 : ∀ q ∈ news, q.1 < ls := kst_ltOf a4
        refine app_at ((I, oI) :: (L' + 1 + 1, o5) :: (L' + 1, co2) :: news) F8 N8 (by (repeat' (first | exact List.forall_mem_nil _ | refine List.forall_mem_cons.mpr ⟨?_, ?_⟩)) <;> (first | (intro q hq; repeat (first | exact hq | apply List.mem_cons_of_mem)) | (repeat (first | exact List.mem_cons_self | apply List.mem_cons_of_mem)))) (List.forall_mem_cons.mpr ⟨a1, List.forall_mem_cons.mpr ⟨Nat.ne_of_lt a2, List.forall_mem_cons.mpr ⟨Nat.ne_of_lt a3, fun q hq => Nat.ne_of_lt (a5 q hq)⟩⟩⟩) (by rw [List.size_toArray, sizeLine_eq, StrsAre.length hP, List.length_map, List.length_range]; omega) fun h10 F10 N10 => ?_
        rw [List.push_toArray] at N10
        k_steps
        refine Turn.next ((ls, _) :: (L' + 1 + 1, o5) :: (L' + 1, co2) :: news) F10 N10 (by (repeat' (first | exact List.forall_mem_nil _ | refine List.forall_mem_cons.mpr ⟨?_, ?_⟩)) <;> (first | (intro q hq; repeat (first | exact hq | apply List.mem_cons_of_mem)) | (repeat (first | exact List.mem_cons_self | apply List.mem_cons_of_mem)))) ?_ trivial ⟨rfl, rfl, us ++ [_], o5, _, hd5, by rw [List.length_append]; rfl, ?_⟩
        · have off' : ∀ q ∈ news, q.1 ≠ I := fun q hq => off q (by simp [hq])
          have off2 : L' + 1 + 1 ≠ I := off (L' + 1 + 1, oc) (by simp)
          have off3 : L' + 1 ≠ I := off (L' + 1, co2) (by simp)
          exact List.forall_mem_cons.mpr ⟨Ne.symm a1, List.forall_mem_cons.mpr ⟨off2, List.forall_mem_cons.mpr ⟨off3, off'⟩⟩⟩
        · rw [List.range_succ, List.map_append]; exact strs_snoc hP _ _
    · rintro k ys nw v IC oIC C oC D m2 h7 tk7 E7 hk ⟨rfl, hys⟩ ⟨t7, rfl⟩ hoC hm2 F7 N7 off7 ne7
      have b1 : (k : Int) < 1000 := by omega
      simp only [Int.zero_add] at hm2
      k_steps
      · have hne : i ≠ k := by omega
        k_dflt (refine' tied_spec w p loose mean mg mb bs n i k _ _ _ _ hz (by omega) (by omega) (by omega) _ _ _ _ _ _ _ _ _ _ _ _ _ _ _ _ _ ?k1 ?k2 ?k3 ?k4 ?k5 ?k6 ?k7 ?k8 ?_; (case k1 => k_asm); (case k2 => k_asm); (case k3 => k_asm); (case k4 => k_asm); (case k5 => k_asm); (case k6 => exact rfl); (case k7 => (first | exact room_of (dp := dp) hdp (by decide) | exact room_of2 (dp := dp) hdp (by decide) | ktr_room)); (case k8 => (first | exact (units_of (un := un) (d := 2) (k := 3) (d' := 1) hun (by decide)) | exact (units_of (un := un) (d := 2) (k := 3) (d' := 2) hun (by decide)) | exact (units_of (un := un) (d := 2) (k := 3) (d' := 4) hun (by decide)) | exact (units_of (un := un) (d := 2) (k := 4) (d' := 1) hun (by decide)) | exact (units_of (un := un) (d := 2) (k := 4) (d' := 2) hun (by decide)) | exact (units_of (un := un) (d := 2) (k := 4) (d' := 4) hun (by decide)) | exact (units_at (un := un) (d := 2) (k := 3) (j := 64) hun (by decide)) | ktr_units)))
        rintro r tl h9 tk9 F9 N9 ⟨rfl, rfl⟩
        simp only [List.nil_append] at N9
        dsimp only
        have b5 : (k : Int) < 5 := by rcases hz with ⟨_, h⟩ | ⟨_, h⟩ <;> omega
        k_steps
        · refine LCg.CompEnd.intro (by assumption) N9 _ (fun _ h => h) off7 trivial ⟨rfl, lets_yes hys (by omega) (by assumption) _ (letter_item hz hk)⟩
        · refine LCg.CompEnd.intro (by assumption) N9 _ (fun _ h => h) off7 trivial ⟨rfl, lets_no hys (.inr (by assumption))⟩
      · refine LCg.CompEnd.intro (by assumption) N7 _ (fun _ h => h) off7 trivial ⟨rfl, lets_no hys (.inl (by omega))⟩
  · rintro h tk g m' news' ⟨rfl, rfl, us, oc, vc, hoc, rfl, hP⟩ F3 N3
    k_steps
    refine hret _ [_] _ _ (by assumption) (sub_news (by assumption) (by (repeat' (first | exact List.forall_mem_nil _ | refine List.forall_mem_cons.mpr ⟨?_, ?_⟩)) <;> (first | (intro q hq; repeat (first | exact hq | apply List.mem_cons_of_mem)) | (repeat (first | exact List.mem_cons_self | apply List.mem_cons_of_mem))))) ⟨ls, us, _, rfl, rfl, hP⟩
end Mine

-- FThrees
theorem Mine.gap_FThrees : True ∧ True := by w_top off; walk1 <;> trivial
namespace Mine
open PySem PySem.W PySem.Calls PyProof.Rows
set_option maxRecDepth 100000
local macro_rules | `(tactic| walk_at "CompSrc") => `(tactic| ((with_reducible show LCg.CompSrc _ _ _ _ _ _ _ _ _ _ _ _ _ _); refine Halt.of ?_))
local macro_rules | `(tactic| walk_at "CompSrcT") => `(tactic| ((with_reducible show LCt.CompSrcT _ _ _ _ _ _ _ _ _ _ _ _ _ _ _); refine Halt.of ?_))

local macro_rules | `(tactic| walk_at "exec For Name Call cons nil") => `(tactic| (with_unfolding_all refine For_to ?_))
local macro_rules | `(tactic| walk_at "exec For Name Name cons nil") => `(tactic| (with_unfolding_all refine For_to ?_))
local macro_rules | `(tactic| walk_at "exec For Name Call cons cons") => `(tactic| (with_unfolding_all refine For_to ?_))
local macro_rules | `(tactic| walk_at "exec For") => `(tactic| (with_unfolding_all refine For_to ?_))
def b1 (b : Bool) : Nat := if b then 1 else 0
def thVal (bs : List Bool) (l m h : Nat) : Int := (((b1 (tb bs l m) + b1 (tb bs l h) + b1 (tb bs m h)) % 2 : Nat) : Int)
def lowF (bs : List Bool) (m h : Nat) (acc : List Int) (k : Nat) : List Int := (List.range k).foldl (fun a l => a ++ [thVal bs l m h]) acc
def midF (bs : List Bool) (h : Nat) (acc : List Int) (k : Nat) : List Int := (List.range k).foldl (fun a i => lowF bs (1 + i) h a (1 + i)) acc
def threes (bs : List Bool) (k : Nat) : List Int := (List.range k).foldl (fun a i => midF bs (2 + i) a (2 + i - 1)) []
theorem lowF_s (bs : List Bool) (m h : Nat) (acc : List Int) (k : Nat) : lowF bs m h acc (k + 1) = lowF bs m h acc k ++ [thVal bs k m h] := by
  unfold lowF; rw [List.range_succ, List.foldl_append]; rfl
theorem midF_s (bs : List Bool) (h : Nat) (acc : List Int) (k : Nat) : midF bs h acc (k + 1) = lowF bs (1 + k) h (midF bs h acc k) (1 + k) := by
  unfold midF; rw [List.range_succ, List.foldl_append]; rfl
theorem threes_s (bs : List Bool) (k : Nat) : threes bs (k + 1) = midF bs (2 + k) (threes bs k) (2 + k - 1) := by
  unfold threes; rw [List.range_succ, List.foldl_append]; rfl
def cnt (l : List Bool) (k : Nat) : Nat := (l.take k).countP id
theorem cnt_s {l : List Bool} {k : Nat} {b : Bool} (h : l[k]? = some b) : cnt l (k + 1) = cnt l k + b1 b := by
  unfold cnt b1
  rw [List.take_add_one, h, List.countP_append]
  cases b <;> simp
theorem bool_at {l : List Bool} {k : Nat} {v : Value} (h : (l.map Value.bool).toArray[k]? = some v) : ∃ b, l[k]? = some b ∧ v = .bool b := by
  rw [List.getElem?_toArray, List.getElem?_map] at h
  cases e : l[k]? with
  | none => rw [e] at h; cases h
  | some b => rw [e] at h; exact ⟨b, rfl, (Option.some.inj h).symm⟩
abbrev vars : List Str := [Str.ofString "high", Str.ofString "middle", Str.ofString "low", Str.ofString "around"]
abbrev vars2 : List Str := [Str.ofString "middle", Str.ofString "low", Str.ofString "around"]
abbrev vars3 : List Str := [Str.ofString "low", Str.ofString "around"]
theorem th_i : ∀ n, n < 6 → ∀ i, i < n - 2 → 2 + i < n := by decide +kernel
theorem th_j : ∀ n, n < 6 → ∀ i, i < n - 2 → ∀ j, j < 2 + i - 1 → 1 + j < n := by decide +kernel
set_option synthInstance.maxSize 4000 in
set_option synthInstance.maxHeartbeats 400000 in
theorem th_k : ∀ n, n < 6 → ∀ i, i < n - 2 → ∀ j, j < 2 + i - 1 → ∀ k, k < 1 + j → k < n ∧ k ≠ 1 + j ∧ k ≠ 2 + i ∧ 1 + j ≠ 2 + i := by decide +kernel
theorem th_l : ∀ n, n < 6 → ∀ i, i < n - 2 → ∀ j, j < 2 + i - 1 → ∀ k, k < 1 + j → 100 * i + 10 * j + k ≤ 16777216 := by decide +kernel
theorem th_m : ∀ n, n < 6 → ∀ i, i < n - 2 → ∀ j, j < 2 + i - 1 → 100 * i + 10 * j + (1 + j) ≤ 100 * i + 10 * (j + 1) := by decide +kernel
theorem th_n : ∀ n, n < 6 → ∀ i, i < n - 2 → 100 * i + 10 * (2 + i - 1) ≤ 100 * (i + 1) := by decide +kernel
set_option maxHeartbeats 4000000 in
theorem threes_spec (w : World) (p : Program) (loose : List Str) (mean : ExcName → Option Value) (mg mb : Str → Option Value) (bs : List Bool) (n : Nat) (t t1 : Tok) (news : List (Addr × Obj)) (hz : Sz bs.length n) :
    Spec w p loose mean mg mb 2 154 news [.str (txt bs) t, .int (n : Int) t1] (fun r tl => ∃ a us k, r = .ref a ∧ tl = [(a, listOf us.toArray k)] ∧ IntsAre us (threes bs (n - 2))) := by
  unfold Spec
  k_fill
  intro dp un gd cn cs a ccd cl outer A₀ base h₀ L m s Q E B F X N T hk hdp hun hret
  have hdp' : dp + 1 < recursionLimit := by omega
  have hn6 : n < 6 := sz_lt hz
  have hn5 : n ≤ 1000 := Nat.le_trans (Nat.le_of_lt hn6) (by decide)
  have hn9 : n < 1000 := Nat.lt_of_lt_of_le hn6 (by decide)
  have kMark : KstMark := kstMark
  refine wpAny_call ?_
  k_dflt (refine' code_def ?k1 ?k2 ?k3 ?k4 ?k5 ?kA ?kF ?kK ?k6 ?k7 ?k8 ?k9 ?kB ?_ ?c2 ?c3 ?c4 ?c5; (case kA => exact rfl); (case kF => exact rfl); (case kK => assumption); (case k1 => k_asm); (case k2 => k_asm); (case k3 => k_asm); (case k4 => k_asm); (case k5 => k_asm); (case k6 => k_is); (case k7 => k_is); (case k8 => (first | exact room_of (dp := dp) hdp (by decide) | exact room_of2 (dp := dp) hdp (by decide) | ktr_room)); (case k9 => exact BindsTo.of_eq rfl); (case c5 => decide); (case kB => exact locs rfl); (case c2 => exact rfl); (case c3 => exact rfl); (case c4 => exact rfl); k_whole)
  intro g' L' h' FG' F' N' B' X' T'
  (try dsimp only)
  (try k_lift B')
  (try k_fold)
  (try refine wpAny_noRaise ?_)
  replace F' : Fr g' L' h' (loc [(Str.ofString "people", .int (n : Int) t1), (Str.ofString "text", .str (txt bs) t)]) := F'
  k_steps
  rename_i ls hA l1 hB F1 N1 tkG Qg hQg hC tkC tr1 tr2 tr3 hR F2 N2 hkeep
  refine loop_range (n - 2) rfl hR ?_ ?_ F2 N2 (fun i m₁ news₁ g => g = s.gens ∧ (∀ z, vars.contains z = false → m₁ z = (if z = Str.ofString "threes" then some (.ref ls) else loc [(Str.ofString "people", .int (n : Int) t1), (Str.ofString "text", .str (txt bs) t)] z)) ∧ ∃ us, news₁ = (ls, listOf us.toArray us.length) :: news ∧ IntsAre us (threes bs i) ∧ us.length ≤ 100 * i) ⟨rfl, fun _ _ => rfl, [], rfl, .nil, by simp⟩ ?_ ?_
  · exact small_nat (a := 2) (by decide) hn9
  · exact size_nat 2 n
  · rintro I i oI t9 m₁ news₁ h tk g hi ⟨rfl, hm1, us, rfl, hP, hPl⟩ off lt F3 N3
    rw [off_eq vars hm1] at F3
    have hi2 : 2 + i < n := th_i n hn6 i hi
    have ei : (2 : Int) + (i : Int) = ((2 + i : Nat) : Int) := (Int.natCast_add 2 i).symm
    rw [ei]
    k_steps
    rename_i hR4 F4 N4 hk4
    refine loop_range (2 + i - 1) rfl hR4 ?_ ?_ F4 (sub_news (news' := (ls, listOf us.toArray us.length) :: (I, oI) :: news) N4 (by (repeat' (first | exact List.forall_mem_nil _ | refine List.forall_mem_cons.mpr ⟨?_, ?_⟩)) <;> (first | (intro q hq; repeat (first | exact hq | apply List.mem_cons_of_mem)) | (repeat (first | exact List.mem_cons_self | apply List.mem_cons_of_mem))))) (fun j m₁ news₁ g => g = s.gens ∧ (∀ z, vars2.contains z = false → m₁ z = (if z = Str.ofString "high" then some (.int ((2 + i : Nat) : Int) t9) else (if z = Str.ofString "threes" then some (.ref ls) else loc [(Str.ofString "people", .int (n : Int) t1), (Str.ofString "text", .str (txt bs) t)] z))) ∧ ∃ us, news₁ = (ls, listOf us.toArray us.length) :: (I, oI) :: news ∧ IntsAre us (midF bs (2 + i) (threes bs i) j) ∧ us.length ≤ 100 * i + 10 * j) ⟨rfl, ?_, us, rfl, hP, by omega⟩ ?_ ?_
    · exact small_nat (a := 1) (by decide) (Nat.lt_trans hi2 hn9)
    · exact size_nat 1 (2 + i)
    · intro z hz
      by_cases e : z = Str.ofString "high"
      · simp only [e, if_true]
      · have h3 : vars.contains z = false := by
          simp only [vars, vars2, List.contains_cons, List.contains_nil, Bool.or_false] at hz ⊢
          rw [hz, Bool.or_false]; exact beq_eq_false_iff_ne.mpr e
        simp only [if_neg e, h3, Bool.false_eq_true, if_false]
    · rintro I5 j oI5 t5 m₁ news₁ h5 tk5 g5 hj ⟨rfl, hm5, us, rfl, hP, hPl⟩ off5 lt5 F5 N5
      rw [off_eq vars2 hm5] at F5
      have hj1 : 1 + j < n := th_j n hn6 i hi j hj
      have ej : (1 : Int) + (j : Int) = ((1 + j : Nat) : Int) := (Int.natCast_add 1 j).symm
      rw [ej]
      k_steps
      rename_i hR6 F6 N6 hk6
      refine loop_range (1 + j) rfl hR6 ?_ ?_ F6 (sub_news (news' := (ls, listOf us.toArray us.length) :: (I5, oI5) :: (I, oI) :: news) N6 (by (repeat' (first | exact List.forall_mem_nil _ | refine List.forall_mem_cons.mpr ⟨?_, ?_⟩)) <;> (first | (intro q hq; repeat (first | exact hq | apply List.mem_cons_of_mem)) | (repeat (first | exact List.mem_cons_self | apply List.mem_cons_of_mem))))) (fun k m₁ news₁ g => g = s.gens ∧ (∀ z, vars3.contains z = false → m₁ z = (if z = Str.ofString "middle" then some (.int ((1 + j : Nat) : Int) t5) else if z = Str.ofString "high" then some (.int ((2 + i : Nat) : Int) t9) else (if z = Str.ofString "threes" then some (.ref ls) else loc [(Str.ofString "people", .int (n : Int) t1), (Str.ofString "text", .str (txt bs) t)] z))) ∧ ∃ us, news₁ = (ls, listOf us.toArray us.length) :: (I5, oI5) :: (I, oI) :: news ∧ IntsAre us (lowF bs (1 + j) (2 + i) (midF bs (2 + i) (threes bs i) j) k) ∧ us.length ≤ 100 * i + 10 * j + k) ⟨rfl, ?_, us, rfl, hP, by omega⟩ ?_ ?_
      · exact small_nat (a := 0) (by decide) (Nat.lt_trans hj1 hn9)
      · rw [rangeSize_nat]; congr 1
      · intro z hz
        by_cases e : z = Str.ofString "middle"
        · simp only [e, if_true]
        · have h3 : vars2.contains z = false := by
            simp only [vars2, vars3, List.contains_cons, List.contains_nil, Bool.or_false] at hz ⊢
            rw [hz, Bool.or_false]; exact beq_eq_false_iff_ne.mpr e
          simp only [if_neg e, h3, Bool.false_eq_true, if_false]
      · rintro I7 k oI7 t7 m₁ news₁ h7 tk7 g7 hk7 ⟨rfl, hm7, us, rfl, hP, hPl⟩ off7 lt7 F7 N7
        rw [off_eq vars3 hm7] at F7
        simp only [Int.zero_add]
        obtain ⟨hkn, hkj, hki, hji⟩ := th_k n hn6 i hi j hj k hk7
        k_steps
        k_dflt (refine' tied_spec w p loose mean mg mb bs n k (1+j) _ _ _ _ hz (by first | assumption | omega) (by first | assumption | omega) (by first | assumption | omega) _ _ _ _ _ _ _ _ _ _ _ _ _ _ _ _ _ ?k1 ?k2 ?k3 ?k4 ?k5 ?k6 ?k7 ?k8 ?_; (case k1 => k_asm); (case k2 => k_asm); (case k3 => k_asm); (case k4 => k_asm); (case k5 => k_asm); (case k6 => exact rfl); (case k7 => (first | exact room_of (dp := dp) hdp (by decide) | exact room_of2 (dp := dp) hdp (by decide) | ktr_room)); (case k8 => (first | exact (units_of (un := un) (d := 2) (k := 3) (d' := 1) hun (by decide)) | exact (units_of (un := un) (d := 2) (k := 3) (d' := 2) hun (by decide)) | exact (units_of (un := un) (d := 2) (k := 3) (d' := 4) hun (by decide)) | exact (units_of (un := un) (d := 2) (k := 4) (d' := 1) hun (by decide)) | exact (units_of (un := un) (d := 2) (k := 4) (d' := 2) hun (by decide)) | exact (units_of (un := un) (d := 2) (k := 4) (d' := 4) hun (by decide)) | exact (units_at (un := un) (d := 2) (k := 3) (j := 64) hun (by decide)) | ktr_units)))
        rintro r tl h9 tk9 F9 N9 ⟨rfl, rfl⟩
        simp only [List.nil_append] at N9
        dsimp only
        k_steps
        k_dflt (refine' tied_spec w p loose mean mg mb bs n k (2+i) _ _ _ _ hz (by first | assumption | omega) (by first | assumption | omega) (by first | assumption | omega) _ _ _ _ _ _ _ _ _ _ _ _ _ _ _ _ _ ?k1 ?k2 ?k3 ?k4 ?k5 ?k6 ?k7 ?k8 ?_; (case k1 => k_asm); (case k2 => k_asm); (case k3 => k_asm); (case k4 => k_asm); (case k5 => k_asm); (case k6 => exact rfl); (case k7 => (first | exact room_of (dp := dp) hdp (by decide) | exact room_of2 (dp := dp) hdp (by decide) | ktr_room)); (case k8 => (first | exact (units_of (un := un) (d := 2) (k := 3) (d' := 1) hun (by decide)) | exact (units_of (un := un) (d := 2) (k := 3) (d' := 2) hun (by decide)) | exact (units_of (un := un) (d := 2) (k := 3) (d' := 4) hun (by decide)) | exact (units_of (un := un) (d := 2) (k := 4) (d' := 1) hun (by decide)) | exact (units_of (un := un) (d := 2) (k := 4) (d' := 2) hun (by decide)) | exact (units_of (un := un) (d := 2) (k := 4) (d' := 4) hun (by decide)) | exact (units_at (un := un) (d := 2) (k := 3) (j := 64) hun (by decide)) | ktr_units)))
        rintro r tl h9 tk9 F9 N9 ⟨rfl, rfl⟩
        simp only [List.nil_append] at N9
        dsimp only
        k_steps
        k_dflt (refine' tied_spec w p loose mean mg mb bs n (1+j) (2+i) _ _ _ _ hz (by first | assumption | omega) (by first | assumption | omega) (by first | assumption | omega) _ _ _ _ _ _ _ _ _ _ _ _ _ _ _ _ _ ?k1 ?k2 ?k3 ?k4 ?k5 ?k6 ?k7 ?k8 ?_; (case k1 => k_asm); (case k2 => k_asm); (case k3 => k_asm); (case k4 => k_asm); (case k5 => k_asm); (case k6 => exact rfl); (case k7 => (first | exact room_of (dp := dp) hdp (by decide) | exact room_of2 (dp := dp) hdp (by decide) | ktr_room)); (case k8 => (first | exact (units_of (un := un) (d := 2) (k := 3) (d' := 1) hun (by decide)) | exact (units_of (un := un) (d := 2) (k := 3) (d' := 2) hun (by decide)) | exact (units_of (un := un) (d := 2) (k := 3) (d' := 4) hun (by decide)) | exact (units_of (un := un) (d := 2) (k := 4) (d' := 1) hun (by decide)) | exact (units_of (un := un) (d := 2) (k := 4) (d' := 2) hun (by decide)) | exact (units_of (un := un) (d := 2) (k := 4) (d' := 4) hun (by decide)) | exact (units_at (un := un) (d := 2) (k := 3) (j := 64) hun (by decide)) | ktr_units)))
        rintro r tl h9 tk9 F9 N9 ⟨rfl, rfl⟩
        simp only [List.nil_append] at N9
        dsimp only
        k_steps
        rename_i la hA7 l7 hB7 F8 N8 tk8 Q8 hQ8
        refine LCt.CompSrcT.ledger (its := ([tb bs k (1 + j), tb bs k (2 + i), tb bs (1 + j) (2 + i)].map Value.bool).toArray) rfl F8 N8 List.mem_cons_self (by rw [sizeLine_eq]; show 3 ≤ 16777216; decide) ?_
        intro g9
        refine CompRestT.inv 3 (fun q ys nw => nw = (la, listOf ([tb bs k (1 + j), tb bs k (2 + i), tb bs (1 + j) (2 + i)].map Value.bool).toArray 0) :: (I7, oI7) :: (ls, listOf us.toArray us.length) :: (I5, oI5) :: (I, oI) :: news ∧ ys.length = cnt [tb bs k (1 + j), tb bs k (2 + i), tb bs (1 + j) (2 + i)] q) ?_ ?_ 3 0 [] _ rfl ⟨rfl, rfl⟩
        · rintro ys nw ⟨rfl, hys⟩
          k_steps
          rename_i D11 h11 tk11 F11 N11 o11
          have hc3 : cnt [tb bs k (1 + j), tb bs k (2 + i), tb bs (1 + j) (2 + i)] 3 ≤ 3 := List.countP_le_length
          refine kst_len N11 (us := ys) (c := ys.length) List.mem_cons_self hys (Int.ofNat_lt.mpr (Nat.lt_of_le_of_lt hc3 (by decide) : _ < 2 ^ 63)) ?_
          k_steps
          have a1 : ∀ q ∈ (I5, oI5) :: (I, oI) :: news, q.1 ≠ ls := List.forall_mem_cons.mpr ⟨Nat.ne_of_gt (lt5 _ List.mem_cons_self), List.forall_mem_cons.mpr ⟨Nat.ne_of_gt (lt _ List.mem_cons_self), fun q hq => Nat.ne_of_lt (l1 q hq)⟩⟩
          refine app_at ((I7, oI7) :: (I5, oI5) :: (I, oI) :: news) (by assumption) (by assumption) (by (repeat' (first | exact List.forall_mem_nil _ | refine List.forall_mem_cons.mpr ⟨?_, ?_⟩)) <;> (first | (intro q hq; repeat (first | exact hq | apply List.mem_cons_of_mem)) | (repeat (first | exact List.mem_cons_self | apply List.mem_cons_of_mem)))) (List.forall_mem_cons.mpr ⟨fun e => off7 _ List.mem_cons_self e.symm, a1⟩) (by rw [List.size_toArray, sizeLine_eq]; exact Nat.le_trans hPl (th_l n hn6 i hi j hj k hk7)) fun h12 F12 N12 => ?_
          rw [List.push_toArray] at N12
          k_steps
          refine Turn.next ((ls, _) :: (I5, oI5) :: (I, oI) :: news) F12 N12 (by (repeat' (first | exact List.forall_mem_nil _ | refine List.forall_mem_cons.mpr ⟨?_, ?_⟩)) <;> (first | (intro q hq; repeat (first | exact hq | apply List.mem_cons_of_mem)) | (repeat (first | exact List.mem_cons_self | apply List.mem_cons_of_mem)))) (off_head _ off7) trivial ⟨rfl, ?_, us ++ [_], by rw [List.length_append]; rfl, ?_, by rw [List.length_append, List.length_singleton]; exact Nat.succ_le_succ hPl⟩
          · intro z hz
            have hh : z ≠ Str.ofString "low" ∧ z ≠ Str.ofString "around" := by refine ⟨?_, ?_⟩ <;> (rintro rfl; exact absurd hz (by decide +kernel))
            simp only [hz, hh, Bool.false_eq_true, if_false]
          · rw [lowF_s]
            have e : thVal bs k (1 + j) (2 + i) = (((cnt [tb bs k (1 + j), tb bs k (2 + i), tb bs (1 + j) (2 + i)] 3 : Nat) : Int)).fmod 2 := by
              unfold thVal cnt b1
              cases tb bs k (1 + j) <;> cases tb bs k (2 + i) <;> cases tb bs (1 + j) (2 + i) <;> rfl
            rw [e]; exact ints_snoc hP _ _
        · rintro q ys nw v IC oIC C oC D m2 h10 tk10 E10 hq ⟨rfl, hys⟩ hP10 hoC hm2 F10 N10 off10 ne10
          obtain ⟨b, hb, rfl⟩ := bool_at hP10
          k_steps
          · refine LCg.CompEnd.intro (by assumption) N10 _ (fun _ h => h) off10 (.inr ⟨_, List.mem_cons_self, rfl, _, rfl⟩) ⟨rfl, ?_⟩
            rw [cnt_s hb, List.length_append, hys]; subst b; rfl
          · refine LCg.CompEnd.intro (by assumption) N10 _ (fun _ h => h) off10 (.inr ⟨_, List.mem_cons_self, rfl, _, rfl⟩) ⟨rfl, ?_⟩
            rw [cnt_s hb, hys]; subst b; rfl
      · rintro h tk g m' news' ⟨rfl, hm7, us, rfl, hP, hPl⟩ F7 N7
        rw [off_eq vars3 hm7] at F7
        k_steps
        refine Turn.next ((ls, listOf us.toArray us.length) :: (I, oI) :: news) F7 N7 (by (repeat' (first | exact List.forall_mem_nil _ | refine List.forall_mem_cons.mpr ⟨?_, ?_⟩)) <;> (first | (intro q hq; repeat (first | exact hq | apply List.mem_cons_of_mem)) | (repeat (first | exact List.mem_cons_self | apply List.mem_cons_of_mem)))) (off_head _ off5) trivial ⟨rfl, ?_, us, rfl, by rw [midF_s]; exact hP, Nat.le_trans hPl (th_m n hn6 i hi j hj)⟩
        intro z hz
        have hh : z ≠ Str.ofString "middle" ∧ z ≠ Str.ofString "low" ∧ z ≠ Str.ofString "around" := by refine ⟨?_, ?_, ?_⟩ <;> (rintro rfl; exact absurd hz (by decide +kernel))
        have h3 : vars3.contains z = false := by simp [vars3, hh]
        simp only [h3, hh, Bool.false_eq_true, if_false]
    · rintro h tk g m' news' ⟨rfl, hm5, us, rfl, hP, hPl⟩ F5 N5
      rw [off_eq vars2 hm5] at F5
      k_steps
      refine Turn.next ((ls, listOf us.toArray us.length) :: news) F5 N5 (by (repeat' (first | exact List.forall_mem_nil _ | refine List.forall_mem_cons.mpr ⟨?_, ?_⟩)) <;> (first | (intro q hq; repeat (first | exact hq | apply List.mem_cons_of_mem)) | (repeat (first | exact List.mem_cons_self | apply List.mem_cons_of_mem)))) (off_head _ off) trivial ⟨rfl, ?_, us, rfl, by rw [threes_s]; exact hP, Nat.le_trans hPl (th_n n hn6 i hi)⟩
      intro z hz
      have hh : z ≠ Str.ofString "high" ∧ z ≠ Str.ofString "middle" ∧ z ≠ Str.ofString "low" ∧ z ≠ Str.ofString "around" := by refine ⟨?_, ?_, ?_, ?_⟩ <;> (rintro rfl; exact absurd hz (by decide +kernel))
      have h3 : vars2.contains z = false := by simp [vars2, hh]
      simp only [h3, hh, Bool.false_eq_true, if_false]
  · rintro h tk g m' news' ⟨rfl, hm1, us, rfl, hP, hPl⟩ F3 N3
    rw [off_eq vars hm1] at F3
    k_steps
    refine hret _ [_] _ _ (by assumption) (sub_news (by assumption) (by (repeat' (first | exact List.forall_mem_nil _ | refine List.forall_mem_cons.mpr ⟨?_, ?_⟩)) <;> (first | (intro q hq; repeat (first | exact hq | apply List.mem_cons_of_mem)) | (repeat (first | exact List.mem_cons_self | apply List.mem_cons_of_mem))))) ⟨ls, us, _, rfl, rfl, hP⟩
end Mine

-- FPretty
theorem Mine.gap_FPretty : True ∧ True := by w_top off; walk1 <;> trivial
namespace Mine
open PySem PySem.W PySem.Calls PyProof.Rows
set_option maxRecDepth 100000
local macro_rules | `(tactic| walk_at "exec For Name Call cons nil") => `(tactic| (with_unfolding_all refine For_to ?_))
local macro_rules | `(tactic| walk_at "exec For Name Name cons nil") => `(tactic| (with_unfolding_all refine For_to ?_))
local macro_rules | `(tactic| walk_at "exec For Name Call cons cons") => `(tactic| (with_unfolding_all refine For_to ?_))
local macro_rules | `(tactic| walk_at "exec For") => `(tactic| (with_unfolding_all refine For_to ?_))
local macro_rules | `(tactic| walk_at "eval Call Attribute") => `(tactic| ((with_reducible show wpAny _ _ (eval (Expr.Call (Expr.Attribute (Expr.Name (Str.ofString "COMPILER_FLAG_NAMES") _) _ _) _ _ _) _) _ _ _); refine Halt.of ?_))
abbrev pvars : List Str := [Str.ofString "i", Str.ofString "flag"]
theorem snoc_as {us : List Value} {xs : List Str} (h : StrsAre us xs) {y z : Str} (t : Tok) (e : y = z) : StrsAre (us ++ [.str y t]) (xs ++ [z]) := e ▸ strs_snoc h y t
theorem cur_eq {m₁ : Str → Option Value} {ls : Value} {y : Int} {t3 : Tok} {v1 v2 v3 : Value} (z : Str) (h : pvars.contains z = false) :
    (if z = Str.ofString "flags" then some (.int y t3) else if z = Str.ofString "flag" then some v1 else if z = Str.ofString "i" then some v2 else if pvars.contains z = true then m₁ z else if z = Str.ofString "names" then some ls else if z = Str.ofString "flags" then some v3 else none)
      = (if z = Str.ofString "names" then some ls else if z = Str.ofString "flags" then some (.int y t3) else none) := by
  have hh : z ≠ Str.ofString "i" ∧ z ≠ Str.ofString "flag" := by refine ⟨?_, ?_⟩ <;> (rintro rfl; exact absurd h (by decide +kernel))
  by_cases e : z = Str.ofString "flags"
  · subst e
    have : ¬ (Str.ofString "flags" = Str.ofString "names") := by decide +kernel
    simp only [this, if_true, if_false]
  · simp only [e, hh, h, Bool.false_eq_true, if_false]
theorem cur_eq2 {m₁ : Str → Option Value} {ls : Value} {y : Int} {t3 : Tok} {v1 v2 : Value} (z : Str) (h : pvars.contains z = false) :
    (if z = Str.ofString "flag" then some v1 else if z = Str.ofString "i" then some v2 else if pvars.contains z = true then m₁ z else if z = Str.ofString "names" then some ls else if z = Str.ofString "flags" then some (.int y t3) else none)
      = (if z = Str.ofString "names" then some ls else if z = Str.ofString "flags" then some (.int y t3) else none) := by
  have hh : z ≠ Str.ofString "i" ∧ z ≠ Str.ofString "flag" := by refine ⟨?_, ?_⟩ <;> (rintro rfl; exact absurd h (by decide +kernel))
  simp only [hh, h, Bool.false_eq_true, if_false]
set_option maxHeartbeats 8000000 in
theorem pretty_spec (w : World) (p : Program) (loose : List Str) (mean : ExcName → Option Value) (mg mb : Str → Option Value) (x : Nat) (t : Tok) (news : List (Addr × Obj)) (hx : x < 2 ^ 32) :
    Spec w p loose mean mg mb 1 29 news [.int (x : Int) t] (fun r tl => tl = [] ∧ ∃ t', r = .str (PF x) t') := by
  unfold Spec
  k_fill
  intro dp un gd cn cs a ccd cl outer A₀ base h₀ L m s Q E B F X N T hk hdp hun hret
  have hdp' : dp + 1 < recursionLimit := by omega
  have kMark : KstMark := kstMark
  refine wpAny_call ?_
  k_dflt (refine' code_def ?k1 ?k2 ?k3 ?k4 ?k5 ?kA ?kF ?kK ?k6 ?k7 ?k8 ?k9 ?kB ?_ ?c2 ?c3 ?c4 ?c5; (case kA => exact rfl); (case kF => exact rfl); (case kK => assumption); (case k1 => k_asm); (case k2 => k_asm); (case k3 => k_asm); (case k4 => k_asm); (case k5 => k_asm); (case k6 => k_is); (case k7 => k_is); (case k8 => (first | exact room_of (dp := dp) hdp (by decide) | exact room_of2 (dp := dp) hdp (by decide) | ktr_room)); (case k9 => exact BindsTo.of_eq rfl); (case c5 => decide); (case kB => exact locs rfl); (case c2 => exact rfl); (case c3 => exact rfl); (case c4 => exact rfl); k_whole)
  intro g' L' h' FG' F' N' B' X' T'
  (try dsimp only)
  (try k_lift B')
  (try k_fold)
  (try refine wpAny_noRaise ?_)
  replace F' : Fr g' L' h' (loc [(Str.ofString "flags", .int (x : Int) t)]) := F'
  k_steps
  rename_i ls hA l1 hB F1 N1 tkG Qg hQg hC tkC tr1 tr2 tr3 hR F2 N2 hkeep
  refine loop_range 32 rfl hR ?_ ?_ F2 N2 (fun i m₁ news₁ g => g = s.gens ∧ ∃ t2, (∀ z, pvars.contains z = false → m₁ z = (if z = Str.ofString "names" then some (.ref ls) else if z = Str.ofString "flags" then some (.int ((x / 2 ^ i * 2 ^ i : Nat) : Int) t2) else none)) ∧ ∃ us, news₁ = (ls, listOf us.toArray us.length) :: news ∧ StrsAre us (pnames x i) ∧ us.length ≤ i ∧ (x / 2 ^ i ≠ 0 ∨ x = 0)) ⟨rfl, t, ?_, [], rfl, .nil, by simp, ?_⟩ ?_ ?_
  · exact small_one (by omega) (by omega) (by omega) (by omega)
  · rfl
  · intro z hz
    by_cases e : z = Str.ofString "flags"
    · subst e; simp only [Nat.pow_zero, Nat.div_one, Nat.mul_one, if_true]; rfl
    · by_cases e2 : z = Str.ofString "names"
      · simp only [e2, if_true]
      · simp only [if_neg e, if_neg e2]
        show List.lookup z [(Str.ofString "flags", Value.int (x : Int) t)] = none
        simp only [List.lookup, beq_eq_false_iff_ne.mpr e]
  · simp only [Nat.pow_zero, Nat.div_one]; omega
  · rintro I i oI t9 m₁ news₁ h tk g hi ⟨rfl, t2, hm1, us, rfl, hP, hPl, hlast⟩ off lt F3 N3
    rw [off_eq pvars hm1] at F3
    simp only [Int.zero_add]
    have a1 : I ≠ ls := fun e => off _ List.mem_cons_self e.symm
    have a5 : ∀ q ∈ news, q.1 ≠ ls := fun q hq => Nat.ne_of_lt (l1 q hq)
    k_steps
    · show wpAny _ _ _ _ _ _
      (rename News g' L' _ ((I, oI) :: _) => Nx)
      (rename Fr g' L' _ _ => Fx)
      refine step_mono Fx Nx (fun v => ∃ t, v = .str (pname i) t) ?_ ?_
      · refine methodCall_KW ?_
        k_steps
        refine P.hex_of_int ?_ (hex_size hi)
        k_steps
        all_goals (
          refine StepEnd.mk (by assumption) (by assumption) ⟨_, congrArg (Value.str · _) ?_⟩
          first | exact pd0 ⟨i, hi⟩ (by assumption) | exact pd1 ⟨i, hi⟩ (by assumption) | exact pd2 ⟨i, hi⟩ (by assumption) | exact pd3 ⟨i, hi⟩ (by assumption) | exact pd4 ⟨i, hi⟩ (by assumption) | exact pd5 ⟨i, hi⟩ (by assumption) | exact pd6 ⟨i, hi⟩ (by assumption) | exact pd7 ⟨i, hi⟩ (by assumption) | exact pd8 ⟨i, hi⟩ (by assumption) | exact pd9 ⟨i, hi⟩ (by assumption) | exact pdH hi (by assumption) (by assumption) (by assumption) (by assumption) (by assumption) (by assumption) (by assumption) (by assumption) (by assumption) (by assumption))
      rintro _ h4 tk4 ⟨t4, rfl⟩ F4 N4
      have hb : x.testBit i = true := (and_ne x i).mp (by assumption)
      have hx1 := xor_form hb
      have hp1 : pnames x (i + 1) = pnames x i ++ [pname i] := by rw [pnames_s, hb]; rfl
      k_steps
      · (rename News g' L' _ ((I, oI) :: _) => Nx)
        (rename Fr g' L' _ _ => Fx)
        simp only [List.push_toArray] at Nx
        rw [hx1] at Fx
        refine Turn.next ((ls, listOf (us ++ [_]).toArray _) :: news) Fx Nx (by (repeat' (first | exact List.forall_mem_nil _ | refine List.forall_mem_cons.mpr ⟨?_, ?_⟩)) <;> (first | (intro q hq; repeat (first | exact hq | apply List.mem_cons_of_mem)) | (repeat (first | exact List.mem_cons_self | apply List.mem_cons_of_mem)))) (off_head _ off) trivial ⟨rfl, _, cur_eq, us ++ [_], by rw [List.length_append]; rfl, by rw [hp1]; exact strs_snoc hP _ _, by rw [List.length_append, List.length_singleton]; omega, ?_⟩
        have hne : Builtin.bitXor ((x / 2 ^ i * 2 ^ i : Nat) : Int) (1 * 2 ^ ((i : Int)).toNat) ≠ 0 := by assumption
        rw [hx1] at hne
        left; intro q; rw [q, Nat.zero_mul] at hne; exact hne rfl
      · refine Turn.brk ?_
        (try dsimp only)
        k_steps
        (rename News g' L' _ ((I, oI) :: _) => Nx)
        simp only [List.push_toArray] at Nx
        have h0 : Builtin.bitXor ((x / 2 ^ i * 2 ^ i : Nat) : Int) (1 * 2 ^ ((i : Int)).toNat) = 0 := by assumption
        rw [hx1] at h0
        have hz0 : x / 2 ^ (i + 1) = 0 := by
          have h00 : x / 2 ^ (i + 1) * 2 ^ (i + 1) = 0 := Int.ofNat.inj h0
          exact (Nat.mul_eq_zero.mp h00).resolve_right (Nat.pos_iff_ne_zero.mp (Nat.two_pow_pos _))
        have hx0 : x ≠ 0 := by rintro rfl; simp at hb
        have hys : ∀ t, StrsAre (us ++ [.str (pname i) t]) (pnames x 32) := fun t => by rw [pnames_top hz0 32 (by omega), hp1]; exact strs_snoc hP _ _
        refine join_list (News.isList Nx (List.mem_cons_of_mem _ List.mem_cons_self)) (hys _) ?_ ?_
        · have e0 : (Str.ofString ", ").length = 2 := by decide +kernel
          have e1 := pnames_sum x 32 (by omega)
          have e2 := pnames_len x 32
          rw [e0]; omega
        · intro t9 k9
          k_steps
          refine hret _ [] _ _ (by assumption) (sub_news (by assumption) (by (repeat' (first | exact List.forall_mem_nil _ | refine List.forall_mem_cons.mpr ⟨?_, ?_⟩)) <;> (first | (intro q hq; repeat (first | exact hq | apply List.mem_cons_of_mem)) | (repeat (first | exact List.mem_cons_self | apply List.mem_cons_of_mem))))) ⟨rfl, t9, ?_⟩
          rw [PF, if_neg hx0]
    · have hb : x.testBit i = false := by
        cases e : x.testBit i with
        | false => rfl
        | true => exact absurd (by assumption) ((and_ne x i).mpr e)
      have hp1 : pnames x (i + 1) = pnames x i := by rw [pnames_s, hb]; simp
      (rename News g' L' _ ((I, oI) :: _) => Nx)
      (rename Fr g' L' _ _ => Fx)
      rw [hi_clear hb] at Fx
      refine Turn.next ((ls, listOf us.toArray _) :: news) Fx Nx (by (repeat' (first | exact List.forall_mem_nil _ | refine List.forall_mem_cons.mpr ⟨?_, ?_⟩)) <;> (first | (intro q hq; repeat (first | exact hq | apply List.mem_cons_of_mem)) | (repeat (first | exact List.mem_cons_self | apply List.mem_cons_of_mem)))) off trivial ⟨rfl, _, cur_eq2, us, rfl, by rw [hp1]; exact hP, by omega, ?_⟩
      rcases hlast with h1 | h1
      · left; intro q; rw [next_bit x i, hb, q] at h1; exact h1 rfl
      · right; exact h1
  · rintro h tk g m' news' ⟨rfl, t2, hm1, us, rfl, hP, hPl, hlast⟩ F3 N3
    rw [off_eq pvars hm1] at F3
    k_steps
    have hx0 : x = 0 := by
      rcases hlast with h1 | h1
      · exact absurd (Nat.div_eq_of_lt hx) h1
      · exact h1
    (rename News g' L' _ ((ls, _) :: _) => Nx)
    simp only [List.push_toArray] at Nx
    have hz0 : us = [] := by
      have : pnames x 32 = [] := by exact pnames_top (i := 0) (by rw [hx0]) 32 (by omega)
      rw [this] at hP; cases hP; rfl
    subst hz0
    simp only [List.nil_append] at Nx
    refine join_list (ys := [baseText "0x" 16 ((x / 2 ^ 32 * 2 ^ 32 : Nat) : Int)]) (News.isList Nx List.mem_cons_self) (.cons _ _ .nil) ?_ ?_
    · have e0 : (Str.ofString ", ").length = 2 := by decide +kernel
      have e1 : (baseText "0x" 16 ((0 / 2 ^ 32 * 2 ^ 32 : Nat) : Int)).length = 3 := by decide +kernel
      rw [e0, hx0]; simp only [List.map_cons, List.map_nil, List.sum_cons, List.sum_nil, List.length_cons, List.length_nil, e1]; omega
    · intro t9 k9
      k_steps
      refine hret _ [] _ _ (by assumption) (sub_news (by assumption) (by (repeat' (first | exact List.forall_mem_nil _ | refine List.forall_mem_cons.mpr ⟨?_, ?_⟩)) <;> (first | (intro q hq; repeat (first | exact hq | apply List.mem_cons_of_mem)) | (repeat (first | exact List.mem_cons_self | apply List.mem_cons_of_mem))))) ⟨rfl, t9, ?_⟩
      rw [PF, if_pos hx0, hx0]
      congr 1
end Mine

-- FNames
theorem Mine.gap_FNames : True ∧ True := by w_top off; walk1 <;> trivial
namespace Mine
open PySem PySem.W PySem.Calls PyProof.Rows
set_option maxRecDepth 100000
local macro_rules | `(tactic| walk_at "CompSrc") => `(tactic| ((with_reducible show LCg.CompSrc _ _ _ _ _ _ _ _ _ _ _ _ _ _); refine Halt.of ?_))
local macro_rules | `(tactic| walk_at "CompSrcT") => `(tactic| ((with_reducible show LCt.CompSrcT _ _ _ _ _ _ _ _ _ _ _ _ _ _ _); refine Halt.of ?_))

local macro_rules | `(tactic| walk_at "exec For Name Call cons nil") => `(tactic| (with_unfolding_all refine For_to ?_))
local macro_rules | `(tactic| walk_at "exec For Name Name cons nil") => `(tactic| (with_unfolding_all refine For_to ?_))
local macro_rules | `(tactic| walk_at "exec For Name Call cons cons") => `(tactic| (with_unfolding_all refine For_to ?_))
local macro_rules | `(tactic| walk_at "exec For") => `(tactic| (with_unfolding_all refine For_to ?_))
def picked (flags : List Str) (c : Int) (k : Nat) : List Str := ((List.range k).filter (fun i => decide ((c.fdiv (2 ^ ((i : Nat) : Int).toNat)).fmod 2 = 1))).map (fun i => flags.getD i Str.empty)
def NM (flags : List Str) (c : Int) : Str := if picked flags c flags.length = [] then Str.ofString "0x0" else Txt.join (Str.ofString ", ") (picked flags c flags.length)
theorem picked_s (flags : List Str) (c : Int) (k : Nat) : picked flags c (k + 1) = picked flags c k ++ (if (c.fdiv (2 ^ ((k : Nat) : Int).toNat)).fmod 2 = 1 then [flags.getD k Str.empty] else []) := by
  unfold picked
  rw [List.range_succ, List.filter_append, List.map_append]
  by_cases h : (c.fdiv (2 ^ ((k : Nat) : Int).toNat)).fmod 2 = 1 <;> simp only [List.filter_cons, List.filter_nil, h, decide_true, decide_false, if_true, if_false, Bool.false_eq_true, List.map_cons, List.map_nil]
theorem picked_mem {flags : List Str} {c : Int} {k : Nat} (hk : k ≤ flags.length) : ∀ x ∈ picked flags c k, x ∈ flags := by
  intro x hx
  unfold picked at hx
  obtain ⟨i, hi, rfl⟩ := List.mem_map.mp hx
  have hlt : i < flags.length := Nat.lt_of_lt_of_le (List.mem_range.mp (List.mem_filter.mp hi).1) hk
  rw [List.getD_eq_getElem?_getD, List.getElem?_eq_getElem hlt]
  exact List.getElem_mem hlt
theorem picked_len (flags : List Str) (c : Int) (k : Nat) : (picked flags c k).length ≤ k := by
  unfold picked
  rw [List.length_map]
  exact Nat.le_trans (List.length_filter_le _ _) (by simp)
theorem sum_le {l : List Str} {b : Nat} (h : ∀ x ∈ l, x.length ≤ b) : (l.map (·.length)).sum ≤ b * l.length := by
  induction l with
  | nil => simp
  | cons x r ih =>
    have h1 := h x List.mem_cons_self
    have h2 := ih fun y hy => h y (List.mem_cons_of_mem _ hy)
    simp only [List.map_cons, List.sum_cons, List.length_cons, Nat.mul_succ]
    omega
set_option maxHeartbeats 4000000 in
theorem names_spec (w : World) (p : Program) (loose : List Str) (mean : ExcName → Option Value) (mg mb : Str → Option Value) (flags : List Str) (fl : Addr) (fs : List Value) (kf : Nat) (c : Int) (t : Tok) (news : List (Addr × Obj)) (hf : StrsAre fs flags) (h5 : flags.length ≤ 5) (hc0 : 0 ≤ c) (hc1 : c < 32) (hsz : ∀ x ∈ flags, x.length ≤ 100 ∧ PyData.strOk x = true) :
    Spec w p loose mean mg mb 2 130 ((fl, listOf fs.toArray kf) :: news) [.ref fl, .int c t] (fun r tl => tl = [] ∧ ∃ t', r = .str (NM flags c) t') := by
  unfold Spec
  k_fill
  intro dp un gd cn cs a ccd cl outer A₀ base h₀ L m s Q E B F X N T hk hdp hun hret
  have hdp' : dp + 1 < recursionLimit := by omega
  have kMark : KstMark := kstMark
  have hfl := StrsAre.length hf
  refine wpAny_call ?_
  k_dflt (refine' code_defC ?k1 ?k2 ?k3 ?k4 ?k5 ?kA ?kF ?kK ?k6 ?k7 ?k8 ?k9 ?kB ?kD ?_ ?c2 ?c3 ?c4; (case kA => exact rfl); (case kF => exact rfl); (case kK => assumption); (case k1 => k_asm); (case k2 => k_asm); (case k3 => k_asm); (case k4 => k_asm); (case k5 => k_asm); (case k6 => k_is); (case k7 => k_is); (case k8 => (first | exact room_of (dp := dp) hdp (by decide) | exact room_of2 (dp := dp) hdp (by decide) | ktr_room)); (case k9 => exact BindsTo.of_eq rfl); (case kB => exact rfl); (case kD => decide +kernel); (case c2 => exact rfl); (case c3 => exact rfl); (case c4 => exact rfl); k_whole)
  intro g' L' h' tk' cells' FG' F' N' Y' B' X' T' l1
  (try k_lt l1)
  have hY := CellsAre.two Y'; obtain ⟨co1, co2, hE', cd1, cd2⟩ := hY; subst hE'; clear Y'
  (try simp only [List.cons_append, List.nil_append] at N')
  (try dsimp only)
  (try k_lift B')
  (try k_fold)
  (try refine wpAny_noRaise ?_)
  replace F' : Fr g' L' h' (fun _ => none) := F'
  replace cd1 : co1.data = .cell (some (.int c t)) := cd1
  replace cd2 : co2.data = .cell (some (.ref fl)) := cd2
  k_steps
  rename_i hR F2 N2 hkeep
  refine LCt.CompSrcT.range (n := flags.length) rfl F2 N2 hR ?_ ?_ (by rw [sizeLine_eq]; omega) ?_
  · exact small_one (by omega) (by omega) (by omega) (by omega)
  · rw [rangeSize_nat]; simp
  intro g9
  refine CompRestT.inv flags.length (fun k ys nw => nw = (L' + 1 + 1, co1) :: (L' + 1, co2) :: (fl, listOf fs.toArray kf) :: news ∧ StrsAre ys (picked flags c k)) ?_ ?_ flags.length 0 [] _ (by omega) ⟨rfl, .nil⟩
  · rintro ys nw ⟨rfl, hys⟩
    k_steps
    rename_i D8 h8 tk8 o8 tk9 Q9 hQ9 l9 h9 F9 N9 l10
    have hok : okS (picked flags c flags.length) := fun x hx => (hsz x (picked_mem (Nat.le_refl _) x hx)).2
    refine eq_strs (xs := ys) (ys := []) (News.isList N9 (List.mem_cons_of_mem _ List.mem_cons_self)) (News.isList N9 List.mem_cons_self) hys .nil hok (fun _ h => nomatch h) ?_ ?_
    · (first | exact (units_of (un := un) (d := 2) (k := 3) (d' := 1) hun (by decide)) | exact (units_of (un := un) (d := 2) (k := 3) (d' := 2) hun (by decide)) | exact (units_of (un := un) (d := 2) (k := 3) (d' := 4) hun (by decide)) | exact (units_of (un := un) (d := 2) (k := 4) (d' := 1) hun (by decide)) | exact (units_of (un := un) (d := 2) (k := 4) (d' := 2) hun (by decide)) | exact (units_of (un := un) (d := 2) (k := 4) (d' := 4) hun (by decide)) | exact (units_at (un := un) (d := 2) (k := 3) (j := 64) hun (by decide)) | ktr_units)
    · k_steps
      · refine hret _ [] _ _ (by assumption) (sub_news (by assumption) (by (repeat' (first | exact List.forall_mem_nil _ | refine List.forall_mem_cons.mpr ⟨?_, ?_⟩)) <;> (first | (intro q hq; repeat (first | exact hq | apply List.mem_cons_of_mem)) | (repeat (first | exact List.mem_cons_self | apply List.mem_cons_of_mem))))) ⟨rfl, ?_⟩
        rw [NM, if_pos (of_decide_eq_true (by assumption))]; exact ⟨_, rfl⟩
      · refine join_list (News.isList N9 (List.mem_cons_of_mem _ List.mem_cons_self)) hys ?_ ?_
        · have e0 : (Str.ofString ", ").length = 2 := by decide +kernel
          have e1 := picked_len flags c flags.length
          have e2 : ((picked flags c flags.length).map (·.length)).sum ≤ 100 * (picked flags c flags.length).length := sum_le fun x hx => (hsz x (picked_mem (Nat.le_refl _) x hx)).1
          rw [e0]; omega
        · intro t9 k9
          k_steps
          refine hret _ [] _ _ (by assumption) (sub_news (by assumption) (by (repeat' (first | exact List.forall_mem_nil _ | refine List.forall_mem_cons.mpr ⟨?_, ?_⟩)) <;> (first | (intro q hq; repeat (first | exact hq | apply List.mem_cons_of_mem)) | (repeat (first | exact List.mem_cons_self | apply List.mem_cons_of_mem))))) ⟨rfl, t9, ?_⟩
          rw [NM, if_neg (of_decide_eq_false (by assumption))]
  · rintro i ys nw v IC oIC C oC D m2 h7 tk7 E7 hi ⟨rfl, hys⟩ ⟨t7, rfl⟩ hoC hm2 F7 N7 off7 ne7
    have hb5 : (i : Int) < 5 := by omega
    simp only [Int.zero_add] at hm2
    k_steps
    · refine LCg.CompEnd.intro (by assumption) N7 _ (fun _ h => h) off7 trivial ⟨rfl, ?_⟩
      rw [picked_s, if_pos (by assumption)]
      exact strs_snoc hys _ _
    · refine LCg.CompEnd.intro (by assumption) N7 _ (fun _ h => h) off7 trivial ⟨rfl, ?_⟩
      rw [picked_s, if_neg (by assumption), List.append_nil]
      exact hys
end Mine
end

-- FPush
theorem Mine.gap_FPush : True ∧ True := by w_top off; walk1 <;> trivial
namespace Mine
open PySem PySem.W PySem.Calls PyProof.Rows
set_option maxRecDepth 100000
local macro_rules | `(tactic| walk_at "execs cons") => `(tactic| ((refine wpAny_execs_cons (gen_toks fun tk => hideQ fun _ _ => ?_)); (try dsimp only)))
local macro_rules | `(tactic| walk_at "Hid") => `(tactic| (refine unhide (by assumption) ?_))
local macro_rules | `(tactic| walk_at "execs nil") => `(tactic| ((refine wpAny_execs_nil ?_); (try dsimp only)))
local macro_rules | `(tactic| walk_at "pyIter ref") => `(tactic| ((with_reducible show wpAny _ _ (pyIter _) _ _ _); refine Halt.of ?_))
local macro_rules | `(tactic| walk_at "call builtin:len") => `(tactic| (k_here; (with_reducible show wpAny _ _ (call (Value.builtin "len") [Value.ref _]) _ _ _); k_dflt (refine' kst_len ?k1 ?k2 rfl ?k4 ?_; (case k1 => k_asm); (case k2 => exact List.mem_cons_self); (case k4 => omega); k_whole)))
local macro_rules | `(tactic| walk_at "call builtin:list.append") => `(tactic| (k_here; (with_reducible show wpAny _ _ (call (Value.builtin "list.append") [Value.ref _, _]) _ _ _); k_dflt (refine' append_K ?k1 ?k2 (Upd.head ?k3) ?_ ?k4; (case k1 => k_asm); (case k2 => k_asm); (case k3 => assumption); (case k4 => (simp only [List.size_toArray, sizeLine_eq]; omega)); k_whole); intro h' F' N'))
local macro_rules | `(tactic| walk_at "ite") => `(tactic| first | with_reducible refine ite_tt ?_ | with_reducible refine ite_ff ?_ | (with_reducible refine split_ine ?_ ?_ <;> intro _) | (with_reducible refine split_ieq ?_ ?_ <;> intro _) | with_reducible refine split_not ?_ | (refine split_dec ?_ ?_ <;> intro _) | (refine split_bool ?_ ?_ <;> intro _) | rw [if_pos True.intro] | rw [if_neg not_false])
local macro_rules | `(tactic| walk_at "InvPostN") => `(tactic| ((with_reducible show InvPostN _ _ _ _ _ _ _ _ _); refine Halt.of ?_))
local macro_rules | `(tactic| walk_at "CompSrc") => `(tactic| ((with_reducible show LCg.CompSrc _ _ _ _ _ _ _ _ _ _ _ _ _ _); refine Halt.of ?_))
local macro_rules | `(tactic| walk_at "CompSrcT") => `(tactic| ((with_reducible show LCt.CompSrcT _ _ _ _ _ _ _ _ _ _ _ _ _ _ _); refine Halt.of ?_))

local macro_rules | `(tactic| walk_at "exec For Name Call cons nil") => `(tactic| (with_unfolding_all refine For_to ?_))
local macro_rules | `(tactic| walk_at "exec For Name Name cons nil") => `(tactic| (with_unfolding_all refine For_to ?_))
local macro_rules | `(tactic| walk_at "exec For Name Call cons cons") => `(tactic| (with_unfolding_all refine For_to ?_))
local macro_rules | `(tactic| walk_at "exec For") => `(tactic| (with_unfolding_all refine For_to ?_))
set_option maxHeartbeats 4000000 in
theorem push_spec (w : World) (p : Program) (loose : List Str) (mean : ExcName → Option Value) (mg mb : Str → Option Value) (x dx : Addr) (its : Array Value) (n : Nat) (od : Obj) (u v : Str) (t t1 : Tok) (news : List (Addr × Obj)) (hod : lookIn (Str.ofString "append") od = some none) (hsz : its.size ≤ 1000) (hne : ∀ p ∈ (dx, od) :: news, p.1 ≠ x) :
    Spec2 w p loose mean mg mb 2 53 ((x, accObj dx its n) :: (dx, od) :: news) [.ref x, .str u t, .str v t1] (fun r nw => r = .none ∧ ∃ T : Addr, (∀ p ∈ (x, accObj dx its n) :: (dx, od) :: news, p.1 < T) ∧ nw = (x, accObj dx (its.push (.ref T)) (n + 1)) :: (T, tupObj #[.str u t, .str v t1]) :: (dx, od) :: news) := by
  unfold Spec2
  k_fill
  intro dp un gd cn cs a ccd cl outer A₀ base h₀ L m s Q E B F X N T hbare hk hdp hun hret
  have hdp' : dp + 1 < recursionLimit := by omega
  have kMark : KstMark := kstMark
  refine wpAny_call ?_
  k_dflt (refine' code_def ?k1 ?k2 ?k3 ?k4 ?k5 ?kA ?kF ?kK ?k6 ?k7 ?k8 ?k9 ?kB ?_ ?c2 ?c3 ?c4 ?c5; (case kA => exact rfl); (case kF => exact rfl); (case kK => assumption); (case k1 => k_asm); (case k2 => k_asm); (case k3 => k_asm); (case k4 => k_asm); (case k5 => k_asm); (case k6 => k_is); (case k7 => k_is); (case k8 => (first | exact room_of (dp := dp) hdp (by decide) | exact room_of2 (dp := dp) hdp (by decide) | ktr_room)); (case k9 => exact BindsTo.of_eq rfl); (case c5 => decide); (case kB => exact locs rfl); (case c2 => exact rfl); (case c3 => exact rfl); (case c4 => exact rfl); k_whole)
  intro g' L' h' FG' F' N' B' X' T'
  (try dsimp only)
  (try k_lift B')
  (try k_fold)
  (try refine wpAny_noRaise ?_)
  k_steps
  have X2 := X'.keeps (Fr.keep F')
  refine acc_getMethod X2 (N' _ List.mem_cons_self).1 (N' _ (List.mem_cons_of_mem _ List.mem_cons_self)).1 hod ?_
  k_steps
  rename_i T9 h9 F9 N9 l9
  have hx9 := N9 (x, accObj dx its n) (List.mem_cons_of_mem _ List.mem_cons_self)
  have hd9 := N9 (dx, od) (List.mem_cons_of_mem _ (List.mem_cons_of_mem _ List.mem_cons_self))
  refine acc_append (X'.keeps (Fr.keep F9)) hx9.1 hd9.1 (by rw [sizeLine_eq]; omega) fun h10 hs10 he10 => ?_
  have F10 := F9.change hs10 hx9.2.1 hx9.2.2
  have hxT : x < T9 := l9.1
  have N10 : News g' L' h10 ((x, accObj dx (its.push (.ref T9)) (n + 1)) :: (T9, tupObj #[.str u t, .str v t1]) :: (dx, od) :: news) := fun q hq => by
    rcases List.mem_cons.mp hq with rfl | hq
    · exact ⟨he10, hx9.2.1, hx9.2.2⟩
    · have hq9 : q ∈ (T9, tupObj #[.str u t, .str v t1]) :: (x, accObj dx its n) :: (dx, od) :: news := by
        rcases List.mem_cons.mp hq with rfl | hq
        · exact List.mem_cons_self
        · exact List.mem_cons_of_mem _ (List.mem_cons_of_mem _ hq)
      have hqx : q.1 ≠ x := by
        rcases List.mem_cons.mp hq with rfl | hq
        · exact Nat.ne_of_gt hxT
        · exact hne q hq
      exact ⟨hs10.extBut _ _ hqx (N9 q hq9).1, (N9 q hq9).2⟩
  k_steps
  refine hret _ _ _ _ _ hbare (by assumption) (by assumption) ⟨rfl, T9, kst_ltOf l9, rfl⟩
end Mine

-- GenAcc
theorem Mine.gap_GenAcc : True ∧ True := by w_top off; walk1 <;> trivial
namespace Mine
open PySem PySem.W PySem.Calls PyProof.Rows
set_option maxRecDepth 100000
abbrev tabObj (ps : Array Value) : Obj := { cls := .none, data := .fields ps }
abbrev Pr := Addr × Str × Tok × Str × Tok
abbrev prTup (q : Pr) : Obj := tupObj #[.str q.2.1 q.2.2.1, .str q.2.2.2.1 q.2.2.2.2]
abbrev prIts (prs : List Pr) : Array Value := (prs.map fun q => Value.ref q.1).toArray
def prT (prs : List Pr) (j : Nat) : Addr := (prs[j]?.map (·.1)).getD 0
def prV (prs : List Pr) (j : Nat) : Array Value := (prs[j]?.map fun q => (#[.str q.2.1 q.2.2.1, .str q.2.2.2.1 q.2.2.2.2] : Array Value)).getD #[.none, .none]
theorem passing_all (n : Nat) : passing (fun _ => true) n 0 = List.range n := by unfold passing; simp
theorem WalksU_bounded {prog : Program} {w : World} {A : Around} {I : Addr} {fp wr : List Addr} {n : Nat} {Pt : Nat → Array Value → Prop} {St : Nat → Heap → Prop} {Mid : Nat → Addr → Heap → Prop} (W : WalksU prog w A I fp wr n Pt St Mid) : WalksU prog w A I fp wr n (fun i v => i < n ∧ Pt i v) St Mid where
  sub := W.sub
  frame := W.frame
  item := fun i s Q E hi st hQ => W.item i s Q E hi st fun T vals h' tk hP => hQ T vals h' tk ⟨hi, hP⟩
  go := W.go
  apart := W.apart
  done := W.done
  self := W.self
theorem WalksS_weaken {prog : Program} {w : World} {A : Around} {I : Addr} {fp wr : List Addr} {G : Array GenState → Array GenState → Prop} {n n' : Nat} {P P' : Nat → Value → Prop} {St : Nat → Shared → Prop} (W : WalksS prog w A I fp wr G n' P St) (e : n' = n) (h : ∀ i v, P i v → P' i v) : WalksS prog w A I fp wr G n P' St := by
  subst e
  exact { sub := W.sub, grefl := W.grefl, gtrans := W.gtrans, frame := W.frame, item := fun i s Q E hi st hQ => W.item i s Q E hi st fun v s' hP => hQ v s' (h i v hP), done := W.done, self := W.self }
theorem code_triples {h : Heap} {c P : Addr} {ps : Array Value} (hok : h.IsCode c P ps) : TriplesOk ps.toList := by
  obtain ⟨_, _, _, _, _, _, _, _, _, _, _, _, _, _, _, _, _, _, _, ht, _⟩ := id hok
  exact ht
/-- what the library asks of a generator that is made from a source that stands -/
def GPost (prog : Program) (w : World) (A : Around) (I₁ : Addr) (scope : Scope) (env : Env) (xa xb : Str) (elt : Expr) (Q : Value → Shared → Prop) (code : Value) (bi : Addr) (s₄ : Shared) : Prop :=
        ∃ I fp wr n₀ Pt St₀ Mid pz F, (Value.ref I₁) = .ref I ∧ (∀ A' : Around, A'.handled = none → WalksU prog w A' I fp wr n₀ Pt St₀ Mid) ∧ (∀ i vals, Pt i vals → ∃ va vb, vals = #[va, vb]) ∧ St₀ 0 s₄.heap ∧ (∀ b ∈ fp, b < s₄.heap.objs.size) ∧ s₄.heap.NoLimit ∧ cStatics ∉ wr ∧
          (∀ href : Heap, (∀ b o, s₄.heap.get? b = some o → href.get? b = some o) →
            QuietGenT prog w (genEnv scope [] s₄.heap.objs.size code bi env) xa xb [] elt (List.range s₄.heap.objs.size) wr Pt pz F href) ∧
          (∀ a h₅ tk gs, gs.bare = true → s₄.heap.objs.size < a → h₅.objs.size = a + 1 → (∀ b o, s₄.heap.get? b = some o → h₅.get? b = some o) →
            WalksS prog w A.in4 a (a :: s₄.heap.objs.size :: List.range s₄.heap.objs.size) (s₄.heap.objs.size :: wr) (GenOnlyQ s₄.gens.size) (passing pz n₀ 0).length
              (fun j y => ∃ i, (passing pz n₀ 0)[j]? = some i ∧ F i y) (GenAt prog w A.in4 a s₄.gens.size s₄.heap.objs.size (List.range s₄.heap.objs.size) wr pz n₀ F) →
            GenAt prog w A.in4 a s₄.gens.size s₄.heap.objs.size (List.range s₄.heap.objs.size) wr pz n₀ F 0 { s₄ with gens := s₄.gens.push gs, toks := tk, heap := h₅ } →
            Q (.ref a) { s₄ with gens := s₄.gens.push gs, toks := tk, heap := h₅ })
section
variable {prog : Program} {w : World} {A : Around} {E : Value → Shared → Prop} {s : Shared}
/-- what a genexp over an accumulator gives, once its iterator stands -/
theorem gen_acc {p : Program} {loose : List Str} {mean : ExcName → Option Value} {mg mb : Str → Option Value} {env : Env} {elt : Expr} {xa xb : Str} {scope : Scope} {pos : Pos} {qn : Str} {c P x dx K I₁ : Addr} {ps : Array Value} {prs : List Pr} {n : Nat} {Fq : Pr → Value → Prop} {Q : Value → Shared → Prop} {h₀ : Heap}
    (hh : A.handled = none) (hcode : env.code = .ref c) (hgl : env.globals = mainGlobals) (hok : s.heap.IsCode c P ps) (htab : s.heap.TableAt c P ps) (T : Top p loose mean mg mb h₀)
    (hk₀ : ∀ b o, h₀.get? b = some o → s.heap.get? b = some o) (hP₀ : h₀.get? P = none) (hI₀ : h₀.get? I₁ = none) (hIK : I₁ = K + 1)
    (hK : s.heap.objs.size = K + 2) (hit : s.heap.IsListIter I₁ x 0) (hx : s.heap.get? x = some (accObj dx (prIts prs) n)) (hxK : x ≤ K) (hPK : P ≤ K) (hxP : x ≠ P) (hbare : AllBare s.gens)
    (hT : ∀ q ∈ prs, s.heap.get? q.1 = some (prTup q) ∧ q.1 ≤ K ∧ q.1 ≠ P)
    (helt : ∀ (C : Addr) (code : Value) (A' : Around) E' (q : Pr) (s₂ : Shared) m₂, A'.handled = none → q ∈ prs → s₂.heap.Ns C m₂ → m₂ xa = some (.str q.2.1 q.2.2.1) → m₂ xb = some (.str q.2.2.2.1 q.2.2.2.2) → (∀ b o, h₀.get? b = some o → s₂.heap.get? b = some o) →
      wpAny (model prog w) A' (eval elt (genEnv scope [] C code builtinsNs env)) (fun y s₃ => Fq q y ∧ Keeps s₂ s₃) E' s₂)
    (hQ : ∀ a h₅ tk g ps', TriplesOk ps'.toList → AllBare g → (∀ b o, b ≠ P → s.heap.get? b = some o → h₅.get? b = some o) → h₅.get? P = some (tabObj ps') →
      Gen prog w A K a prs.length (fun j y => ∃ q, prs[j]? = some q ∧ Fq q y) { s with heap := h₅, toks := tk, gens := g } → Q (.ref a) { s with heap := h₅, toks := tk, gens := g }) :
    wpAny (model prog w) A (genexprCode env pos qn scope) (fun code s₃ => wpAny (model prog w) A (builtinsFor env.globals env.builtins) (GPost prog w A I₁ scope env xa xb elt Q code) E s₃) E s := by
  subst hIK
  obtain ⟨bm, ob, M⟩ := bmod_of_top T
  have hxI : x ≠ K + 1 := Nat.ne_of_lt (Nat.lt_succ_of_le hxK)
  have body : ∀ (code : Value) (h₃ : Heap) (tk₃ : Nat) (ps' : Array Value), TriplesOk ps'.toList → Heap.ExtBut P s.heap h₃ → s.heap.objs.size ≤ h₃.objs.size → h₃.get? P = some (tabObj ps') →
      wpAny (model prog w) A (builtinsFor env.globals env.builtins) (GPost prog w A (K + 1) scope env xa xb elt Q code) E { s with heap := h₃, toks := tk₃ } := by
    intro code h₃ tk₃ ps' ht' hext hsz hp'
    have k₀ : ∀ b o, h₀.get? b = some o → h₃.get? b = some o := fun b o e => hext b o (fun q => by rw [q, hP₀] at e; cases e) (hk₀ b o e)
    have M₃ := M.keeps k₀
    rw [hgl]
    refine wpAny_builtinsFor M₃.ns M₃.name M₃.ne M₃.obj M₃.cls M₃.dict M₃.data ?_
    have hat : ∀ j, j < (prIts prs).size → ∃ q ∈ prs, prs[j]? = some q := fun j hj => by
      have hj' : j < prs.length := by simpa using hj
      exact ⟨prs[j], List.getElem_mem hj', List.getElem?_eq_getElem hj'⟩
    have hits : ∀ j, j < (prIts prs).size → (prIts prs)[j]? = some (.ref (prT prs j)) := fun j hj => by
      obtain ⟨q, _, e⟩ := hat j hj
      simp [prT, e]
    have hTI : ∀ j, j < (prIts prs).size → prT prs j ≠ K + 1 := fun j hj => by
      obtain ⟨q, hq, e⟩ := hat j hj
      have := (hT q hq).2.1
      unfold prT; rw [e]
      exact Nat.ne_of_lt (Nat.lt_succ_of_le this)
    have hst : h₃.IsListIter (K + 1) x 0 ∧ IsSeq h₃ x (prIts prs) ∧ ∀ k, k < (prIts prs).size → h₃.IsTuple (prT prs k) (prV prs k) := by
      refine ⟨hit.at fun o e => hext _ o (fun q => ?_) e, ⟨_, hext _ _ hxP hx, n, rfl⟩, fun k hk => ?_⟩
      · rw [← q] at hPK; exact Nat.not_succ_le_self K hPK
      · obtain ⟨q, hq, e⟩ := hat k hk
        obtain ⟨h1, h2, h3⟩ := hT q hq
        unfold prT prV; rw [e]
        exact ⟨_, hext _ _ h3 h1, rfl, _, rfl⟩
    unfold GPost
    refine ⟨K + 1, _, [K + 1], (prIts prs).size, _, _, _, fun _ => true, fun j y => ∃ q, prs[j]? = some q ∧ Fq q y, rfl, fun A' hA => WalksU_bounded (acc_walks hA (K + 1) x hxI (prIts prs) (prT prs) (prV prs) hits hTI), ?_, hst, ?_, T.nolimit.keeps k₀, ?_, ?_, ?_⟩
    · rintro i vals ⟨-, rfl⟩
      unfold prV
      cases prs[i]? with
      | none => exact ⟨_, _, rfl⟩
      | some q => exact ⟨_, _, rfl⟩
    · intro b hb
      have hlt : K + 1 < h₃.objs.size := Nat.lt_of_lt_of_le (by rw [hK]; exact Nat.lt_succ_self _) hsz
      rcases List.mem_cons.mp hb with rfl | hb
      · exact hlt
      · rcases List.mem_cons.mp hb with rfl | hb
        · exact Nat.lt_of_le_of_lt hxK (Nat.lt_of_succ_lt hlt)
        · obtain ⟨k, hk, rfl⟩ := List.mem_map.mp hb
          obtain ⟨q, hq, e⟩ := hat k (List.mem_range.mp hk)
          have := (hT q hq).2.1
          unfold prT; rw [e]
          exact Nat.lt_of_le_of_lt this (Nat.lt_of_succ_lt hlt)
    · intro hm
      rw [List.mem_singleton] at hm
      obtain ⟨_, hns, _⟩ := T.nolimit
      obtain ⟨o, es, ep, ho, hd, _⟩ := hns
      rw [hm, hI₀] at ho; cases ho
    · intro href hhref
      have topAt : ∀ s₂ : Shared, (∀ b ∈ List.range h₃.objs.size, b ∉ [K + 1] → ∀ o, href.get? b = some o → s₂.heap.get? b = some o) → (∀ b o, h₀.get? b = some o → s₂.heap.get? b = some o) := fun s₂ hk b o e => by
        have e3 := k₀ b o e
        exact hk b (List.mem_range.mpr (Heap.lt_size e3)) (fun hm => by rw [List.mem_singleton.mp hm, hI₀] at e; cases e) o (hhref b o e3)
      refine ⟨fun A' E' i va vb s₂ m₂ _ _ _ _ _ _ => wpAny_tests_nil ⟨rfl, s₂.heap, s₂.toks, rfl, fun _ _ e => e⟩, fun A' E' i va vb s₂ m₂ hA hP _ hn ha hb hk => ?_⟩
      obtain ⟨hi, hP⟩ := hP
      cases e : prs[i]? with
      | none =>
        have hlt : i < prs.length := by simpa using hi
        rw [List.getElem?_eq_getElem hlt] at e; cases e
      | some q =>
        unfold prV at hP
        rw [e] at hP
        have hP' : (#[va, vb] : Array Value) = #[.str q.2.1 q.2.2.1, .str q.2.2.2.1 q.2.2.2.2] := hP
        injection hP' with hP'
        injection hP' with e1 hP'
        injection hP' with e2 _
        refine wpAny_mono (helt _ code A' E' q s₂ m₂ hA (List.mem_of_getElem? e) hn (by rw [ha, e1]) (by rw [hb, e2]) (topAt s₂ hk)) (fun y s₃ h₃ => ⟨⟨q, rfl, h₃.1⟩, h₃.2⟩) fun _ _ z => z
    · intro a h₅ tk gs hgb hag hsz₅ hk₅ W hat0
      refine hQ a h₅ tk _ ps' ht' (hbare.push hgb) (fun b o hb e => hk₅ b o (hext b o hb e)) (hk₅ _ _ hp') ⟨_, _, _, _, WalksS_weaken (n := prs.length) W (by rw [passing_all]; simp) (fun j v hv => ?_), hat0, (fun i s' st => st.1.typeIs), List.mem_cons_self, ?_, ?_⟩
      · obtain ⟨i, hi, q, hq, hf⟩ := hv
        rw [passing_all] at hi
        obtain ⟨hlt, rfl⟩ := List.getElem?_eq_some_iff.mp hi
        rw [List.getElem_range] at hq
        exact ⟨q, hq, hf⟩
      · intro b hb
        show b < h₅.objs.size
        rw [hsz₅]
        rcases List.mem_cons.mp hb with rfl | hb
        · exact Nat.lt_succ_self _
        · rcases List.mem_cons.mp hb with rfl | hb
          · exact Nat.lt_succ_of_lt hag
          · exact Nat.lt_succ_of_lt (Nat.lt_trans (List.mem_range.mp hb) hag)
      · intro b hb
        have hlt : K < h₃.objs.size := Nat.lt_of_lt_of_le (by rw [hK]; exact Nat.lt_succ_of_lt (Nat.lt_succ_self _)) hsz
        rcases List.mem_cons.mp hb with rfl | hb
        · exact hlt
        · rw [List.mem_singleton] at hb; subst hb; exact Nat.lt_succ_self _
  cases hc : codeAmong pos ps.toList with
  | some c' =>
    exact wpAny_genexprCode_hit hcode hok hc (body c' s.heap s.toks ps (code_triples hok) (fun _ _ _ e => e) (Nat.le_refl _) htab.2)
  | none =>
    refine wpAny_genexprCodeX hcode hok htab hc fun c' h' tk hx₃ hge hlt hcode₃ _ htab₃ _ => ?_
    exact body (.ref c') h' tk _ (code_triples hcode₃) hx₃ (Nat.le_trans hge (Nat.le_of_lt hlt)) htab₃.2
end
end Mine

-- Sum0
theorem Mine.gap_Sum0 : True ∧ True := by w_top off; walk1 <;> trivial
namespace Mine
open PySem PySem.W PySem.Calls PyProof.Rows
set_option maxRecDepth 100000
theorem sum_args (a b : Value) : argsOk "sum" ⟨[a, b], []⟩ := by unfold argsOk; kernel_rfl
section
variable {prog : Program} {w : World} {A : Around} {E : Value → Shared → Prop} {s : Shared}
/-- sum of a walk, the start nought told -/
theorem sum_from0 {x : Value} {tz : Tok} {Q : Value → Shared → Prop}
    (h : wpAny (model prog w) A.in1 (pyIter x) (fun it s₂ => ∃ I fp wr G n P St val, it = .ref I ∧ WalksS prog w A.in1 I fp wr G n P St ∧ St 0 s₂ ∧ (∀ b ∈ fp, b < s₂.heap.objs.size) ∧
      (∀ i v, P i v → ∃ t, v = .int (val i) t) ∧ ∀ s' t', Moved wr G s₂ s' → Q (.int (preSum val n) t') s') E s) :
    wpAny (model prog w) A (call (.builtin "sum") [x, .int 0 tz]) Q E s := by
  refine call_function_tree F.kind_sum F.plain_sum F.entry_sum (sum_args _ _) ?_
  unfold Builtin.«sum»
  simp only [List.length_cons, List.length_nil]
  rw [if_neg (by decide)]
  refine wpAny_bind (wpAny_of_eq (show Builtin.Builtins.bindParams "sum" ["start"] 0 ⟨[.int 0 tz], []⟩ = pure [some (.int 0 tz)] from rfl) ?_)
  refine wpAny_bind (wpAny_mono h (fun it s₂ h₂ => ?_) fun _ _ e => e)
  obtain ⟨I, fp, wr, G, n, P, St, val, rfl, W, hst, hfp, hval, hQ⟩ := h₂
  dsimp only
  rw [if_pos (by decide)]
  refine wpAny_bind (wpAny_bind (wpAny_rule (wpAny_pure (wpAny_bind (wpAny_mkInt ?_)))))
  refine wpAny_bind (wpAny_pure ?_)
  simp only [List.forIn_cons, List.forIn_nil]
  refine wpAny_bind (wpAny_bind (wpAny_bind (wpAny_isInstance (T := "int") (b := false) (typeIs_int _ _ _) PySem.sub_int_str ?_)))
  simp only [Bool.false_eq_true, if_false]
  refine wpAny_pure (wpAny_bind (wpAny_bind (wpAny_isInstance (T := "int") (b := false) (typeIs_int _ _ _) PySem.sub_int_bytes ?_)))
  simp only [Bool.false_eq_true, if_false]
  refine wpAny_pure (wpAny_bind (wpAny_bind (wpAny_isInstance (T := "int") (b := false) (typeIs_int _ _ _) PySem.sub_int_bytearray ?_)))
  simp only [Bool.false_eq_true, if_false]
  refine wpAny_pure (wpAny_pure ?_)
  refine wpAny_bind (wpAny_newObj_type ?_)
  have hSf : s₂.heap.objs.size ∉ fp := fun hm => Nat.lt_irrefl _ (hfp _ hm)
  refine wpAny_pure ⟨plainId_quiet F.plain_sum_loop _, codeAny_sum_loopAnyS W val hval s₂.heap.objs.size hSf n 0 _ s₂.toks 0 0 (.inl rfl) rfl (Nat.zero_le _)
    (W.frame 0 s₂ _ _ hst (Nat.le_succ _) fun b _ o e => Heap.get?_push_of_some _ e) (Heap.get?_push_size _ rfl) fun s' t' hm => ?_⟩
  exact hQ s' t' (hm.drop_new (Nat.le_succ _))
/-- sum of a genexp, the start nought told -/
theorem sum_gen {K a : Addr} {n : Nat} {F : Nat → Value → Prop} {tz : Tok} {Q : Value → Shared → Prop} (G : AllBare s.gens) (X : Gen prog w A K a n F s) (val : Nat → Int) (hval : ∀ j v, F j v → ∃ t, v = .int (val j) t)
    (hQ : ∀ h' tk' g' t', AllBare g' → (∀ b o, b ≤ K → s.heap.get? b = some o → h'.get? b = some o) → Q (.int (preSum val n) t') { s with heap := h', toks := tk', gens := g' }) : wpAny (model prog w) A (call (.builtin "sum") [.ref a, .int 0 tz]) Q E s := by
  obtain ⟨fp, wr, g, St, W, hst, _, _, hfp, hwr⟩ := X
  have W := W.in4_1
  refine sum_from0 (W.self 0 _ _ _ hst ⟨a, _, _, _, _, _, _, val, rfl, W, hst, hfp, hval, fun s' t' hm => ?_⟩)
  have e : s' = { s with heap := s'.heap, toks := s'.toks, gens := s'.gens } := by
    have h1 := hm.drawn
    have h2 := hm.os
    cases s'; simp only at h1 h2; subst h1; subst h2; rfl
  rw [e]
  exact hQ _ _ _ _ (G.movedS hm) fun b o hb e => hm.heap b o (fun hmem => Nat.lt_irrefl _ (Nat.lt_of_lt_of_le (hwr b hmem) hb)) e
end
end Mine

-- GenElt
theorem Mine.gap_GenElt : True ∧ True := by w_top off; walk1 <;> trivial
namespace Mine
open PySem PySem.W PySem.Calls PyProof.Rows
set_option maxRecDepth 100000
section
variable {prog : Program} {w : World} {A : Around} {E : Value → Shared → Prop} {s : Shared} {env : Env} {p : Program} {loose : List Str} {mean : ExcName → Option Value} {mg mb : Str → Option Value} {h₀ : Heap}
theorem Keeps_refl (s : Shared) (tk : Nat) : Keeps s { s with toks := tk } := ⟨s.heap, tk, rfl, fun _ _ e => e⟩
theorem len_elt {xa xb : Str} {p1 p2 p3 p4 p5 p6 p7 : Pos} {C : Addr} {m₂ : Str → Option Value} {u v : Str} {t t1 : Tok} (X : (hd.heap_1 w.params).In h₀) (T : Top p loose mean mg mb h₀) (hk : ∀ b o, h₀.get? b = some o → s.heap.get? b = some o)
    (hf : env.scope.kind = .function) (hg : env.globals = mainGlobals) (hb : env.builtins = builtinsNs) (hl : env.locals = C) (n : s.heap.Ns C m₂) (hl1 : env.kindOf (Str.ofString "len") = some .globalImplicit) (ka : env.kindOf xa = some .local) (kb : env.kindOf xb = some .local)
    (da : (xa == ("__debug__" : Str)) = false) (db : (xb == ("__debug__" : Str)) = false) (ha : m₂ xa = some (.str u t)) (hbb : m₂ xb = some (.str v t1)) (hu : u.length ≤ 1000) (hv : v.length ≤ 1000)
    (e0 : nsIn (hd.heap_1 w.params) mainGlobals (Str.ofString "len") = some none) (hs1 : starEach [.Name xa p2] env = [(false, eval (.Name xa p2) env)]) (hs2 : starEach [.Name xb p5] env = [(false, eval (.Name xb p5) env)]) :
    wpAny (model prog w) A (eval (.BinOp (.Call (.Name (Str.ofString "len") p1) [.Name xa p2] [] p3) .Add (.Call (.Name (Str.ofString "len") p4) [.Name xb p5] [] p6) p7) env)
      (fun y s₃ => (∃ t, y = .int ((u.length + v.length : Nat) : Int) t) ∧ Keeps s s₃) E s := by
  have eb : bootBuiltins (Str.ofString "len") = some (.builtin "len") := by decide +kernel
  have bl : (Str.ofString "len" == ("__debug__" : Str)) = false := by decide +kernel
  have nm : ∀ {pos : Pos} {s' : Shared} {Q : Value → Shared → Prop}, (∀ b o, h₀.get? b = some o → s'.heap.get? b = some o) → Q (.builtin "len") s' → wpAny (model prog w) A (eval (.Name (Str.ofString "len") pos) env) Q E s' := fun hk' q =>
    Name_function_global hf hl1 (loadGlobal_builtin (env := env) (hg ▸ T.g.keeps hk') (mg_none_of X T.g e0) (hb ▸ T.b.keeps hk') ((T.builtins _ (by decide +kernel)).trans eb) q) bl
  subst hl
  refine wpAny_BinOp (Call_Name1 (nm hk (callWith_builtin1 (wpAny_Name (wpAny_loadName_local hf ka n ha (len_str (by omega) ?_)) da))) hs1)
  refine Call_Name1 (nm hk (callWith_builtin1 (wpAny_Name (wpAny_loadName_local hf kb n hbb (len_str (by omega) ?_)) db))) hs2
  refine wpAny_add_int ⟨⟨_, by rw [Int.natCast_add]⟩, s.heap, _, rfl, fun _ _ e => e⟩
theorem join_elt {xa xb : Str} {k : Nat} {p1 p2 p3 p4 p5 p6 : Pos} {C : Addr} {m₂ : Str → Option Value} {u v : Str} {t t1 te : Tok} (X : (hd.heap_1 w.params).In h₀) (T : Top p loose mean mg mb h₀) (hk : ∀ b o, h₀.get? b = some o → s.heap.get? b = some o)
    (hf : env.scope.kind = .function) (hg : env.globals = mainGlobals) (hl : env.locals = C) (n : s.heap.Ns C m₂) (hl1 : env.kindOf (Str.ofString "EMPTYSTRING") = some .globalImplicit) (ka : env.kindOf xa = some .local) (kb : env.kindOf xb = some .local)
    (da : (xa == ("__debug__" : Str)) = false) (db : (xb == ("__debug__" : Str)) = false) (ha : m₂ xa = some (.str u t)) (hbb : m₂ xb = some (.str v t1)) (hu : u.length ≤ 1000) (hv : v.length ≤ 1000)
    (e0 : nsIn (hd.heap_1 w.params) mainGlobals (Str.ofString "EMPTYSTRING") = some (some (.str Str.empty te)))
    (hbase : attributeBase (.Name (Str.ofString "EMPTYSTRING") p1) (Str.ofString "join") env (eval (.Name (Str.ofString "EMPTYSTRING") p1) env) = eval (.Name (Str.ofString "EMPTYSTRING") p1) env) (hline : (p2.endLine == p6.line) = true)
    (hs : starEach [.Tuple [.Name xa p3, .Name xb p4] k p5] env = [(false, eval (.Tuple [.Name xa p3, .Name xb p4] k p5) env)])
    (hs1 : starEach [.Name xa p3, .Name xb p4] env = (false, eval (.Name xa p3) env) :: starEach [.Name xb p4] env) (hs2 : starEach [.Name xb p4] env = (false, eval (.Name xb p4) env) :: starEach [] env) :
    wpAny (model prog w) A (eval (.Call (.Attribute (.Name (Str.ofString "EMPTYSTRING") p1) (Str.ofString "join") p2) [.Tuple [.Name xa p3, .Name xb p4] k p5] [] p6) env)
      (fun y s₃ => (∃ t, y = .str (u ++ v) t) ∧ Keeps s s₃) E s := by
  have bl : (Str.ofString "EMPTYSTRING" == ("__debug__" : Str)) = false := by decide +kernel
  subst hl
  refine Call_method1 hbase hs hline ?_
  refine Name_function_global hf hl1 (loadGlobal_global (env := env) (hg ▸ T.g.keeps hk) (mg_of X T.g e0) ?_) bl
  refine ⟨"str", "str.join", F.plainAttrs_str, F.slot_str_join, F.type_str_join, typeIs_str _ _ _, (fun _ e => nomatch e), ?_⟩
  refine callWith_builtin rfl (evalArgs_plain (spliced_cons (Tuple_ (args_cons (wpAny_Name (wpAny_loadName_local hf ka n ha (args_cons (wpAny_Name (wpAny_loadName_local hf kb n hbb (args_nil ?_)) db) hs2)) da) hs1))))
  refine wpAny_newObj_type ?_ (by size_fits)
  refine spliced_nil ?_
  refine join_tuple (ys := [u, v]) ⟨_, Heap.get?_push_size _ rfl, rfl, _, rfl⟩ (.cons _ _ (.cons _ _ .nil)) ?_ fun t' k => ?_
  · have : (Str.empty).length = 0 := by decide +kernel
    simp only [List.map_cons, List.map_nil, List.sum_cons, List.sum_nil, List.length_cons, List.length_nil, this]; omega
  · refine ⟨⟨t', ?_⟩, _, _, rfl, fun _ _ e => Heap.get?_push_of_some _ e⟩
    congr 1
end
end Mine

-- GenExp
theorem Mine.gap_GenExp : True ∧ True := by w_top off; walk1 <;> trivial
namespace Mine
open PySem PySem.W PySem.Calls PyProof.Rows
set_option maxRecDepth 100000
section
variable {prog : Program} {w : World} {A : Around} {E : Value → Shared → Prop} {s : Shared}
/-- a genexp over an accumulator -/
theorem genexp_acc {p : Program} {loose : List Str} {mean : ExcName → Option Value} {mg mb : Str → Option Value} {env : Env} {elt iter : Expr} {xa xb : Str} {pa pb pt : Pos} {kt : Nat} {scope : Scope} {pos : Pos} (c P x dx : Addr) (ps : Array Value) (prs : List Pr) (n : Nat) (od : Obj) (Fq : Pr → Value → Prop) {Q : Value → Shared → Prop} {h₀ : Heap}
    (X : (hd.heap_1 w.params).In h₀) (T : Top p loose mean mg mb h₀) (hk₀ : ∀ b o, h₀.get? b = some o → s.heap.get? b = some o)
    (hok : s.heap.IsCode c P ps) (htab : s.heap.TableAt c P ps)
    (hP₀ : h₀.get? P = none) (hx : s.heap.get? x = some (accObj dx (prIts prs) n)) (hdx : s.heap.get? dx = some od) (hxP : x ≠ P) (hbare : AllBare s.gens)
    (hT : ∀ q ∈ prs, s.heap.get? q.1 = some (prTup q) ∧ q.1 ≠ P)
    (hiter : ∀ Q : Value → Shared → Prop, Q (.ref x) s → wpAny (model prog w) A (eval iter env) Q E s)
    (helt : ∀ (C : Addr) (code : Value) (A' : Around) E' (q : Pr) (s₂ : Shared) m₂, A'.handled = none → q ∈ prs → s₂.heap.Ns C m₂ → m₂ xa = some (.str q.2.1 q.2.2.1) → m₂ xb = some (.str q.2.2.2.1 q.2.2.2.2) → (∀ b o, h₀.get? b = some o → s₂.heap.get? b = some o) →
      wpAny (model prog w) A' (eval elt (genEnv scope [] C code builtinsNs env)) (fun y s₃ => Fq q y ∧ Keeps s₂ s₃) E' s₂)
    (hQ : ∀ a h₅ tk g ps' K, TriplesOk ps'.toList → AllBare g → (∀ b o, s.heap.get? b = some o → b ≤ K) → (∀ b o, b ≠ P → s.heap.get? b = some o → h₅.get? b = some o) → h₅.get? P = some (tabObj ps') →
      Gen prog w A K a prs.length (fun j y => ∃ q, prs[j]? = some q ∧ Fq q y) { s with heap := h₅, toks := tk, gens := g } → Q (.ref a) { s with heap := h₅, toks := tk, gens := g })
    (hcode : env.code = .ref c) (hgl : env.globals = mainGlobals)
    (hh : A.handled = none) (hco : scope.isCoroutine = false) (hclos : closureFor scope env = pure []) (hcell : ∀ y ∈ scope.names, y.2 ≠ .cell) (h0 : scope.names.lookup (".0" : Str) = some NameKind.local)
    (hxa : scope.names.lookup xa = some .local) (hxb : scope.names.lookup xb = some .local) (hab : xa ≠ xb) (hkind : scope.kind = .function) (hroom : A.depth < recursionLimit) (hs : ∀ x, genFold iter env x = pure x) :
    wpAny (model prog w) A (eval (.GeneratorExp elt [⟨.Tuple [.Name xa pa, .Name xb pb] kt pt, iter, [], 0⟩] scope pos) env) Q E s := by
  refine wpAny_GeneratorExp_walksQT hh hco hclos hcell h0 hxa hxb hab hkind hroom (hiter _ (acc_iter (X.keeps hk₀) hx hdx ?_)) hs
  refine ⟨(T.nolimit.keeps hk₀).push _, ?_⟩
  have hlt : x < s.heap.objs.size := Heap.lt_size hx
  obtain ⟨K, hK⟩ : ∃ K, s.heap.objs.size = K + 1 := Nat.exists_eq_succ_of_ne_zero (Nat.ne_of_gt (Nat.lt_of_le_of_lt (Nat.zero_le _) hlt))
  have hle : ∀ b o, s.heap.get? b = some o → b ≤ K := fun b o e => by have := Heap.lt_size e; rw [hK] at this; exact Nat.le_of_lt_succ this
  have up : ∀ b o, s.heap.get? b = some o → (s.heap.push { cls := .type "list_iterator", data := .fields #[.ref x, .int 0 0] }).get? b = some o := fun b o e => Heap.get?_push_of_some _ e
  have hI₀ : h₀.get? s.heap.objs.size = none := by
    cases e : h₀.get? s.heap.objs.size with
    | none => rfl
    | some o => exact absurd (Heap.lt_size (hk₀ _ _ e)) (Nat.lt_irrefl _)
  exact gen_acc (s := { s with heap := s.heap.push { cls := .type "list_iterator", data := .fields #[.ref x, .int 0 0] } }) (Q := Q) (K := K) (prs := prs) (x := x) (dx := dx) (n := n) (h₀ := h₀) (Fq := Fq) hh hcode hgl (hok.keeps up) (htab.keeps up) T (fun b o e => up b o (hk₀ b o e)) hP₀ hI₀ hK
    (by show (s.heap.push _).objs.size = _; rw [Heap.size_push, hK]) ⟨_, Heap.get?_push_size _ rfl, rfl, rfl⟩ (up _ _ hx) (hle _ _ hx) (hle _ _ htab.2) hxP hbare (fun q hq => ⟨up _ _ (hT q hq).1, hle _ _ (hT q hq).1, (hT q hq).2⟩) helt
    (fun a h₅ tk g ps' ht' hb' hk5 hp5 G => hQ a h₅ tk g ps' K ht' hb' hle (fun b o hb e => hk5 b o hb (up b o e)) hp5 G)
end
theorem Gen_toks {prog : Program} {w : World} {A : Around} {K a : Addr} {n : Nat} {F : Nat → Value → Prop} {s : Shared} (X : Gen prog w A K a n F s) (tk : Nat) (h : s.toks ≤ tk) : Gen prog w A K a n F { s with toks := tk } :=
  let ⟨fp, wr, g, St, W, h1, h2, h3, h4, h5⟩ := X; ⟨fp, wr, g, St, W, W.frame 0 s s.heap tk h1 h (fun _ _ _ e => e), h2, h3, h4, h5⟩
theorem Fr_but {g h h' : Heap} {L P : Addr} {m : Str → Option Value} (F : Fr g L h m) (hg : g.get? P = none) (hL : L ≠ P) (hk : ∀ b o, b ≠ P → h.get? b = some o → h'.get? b = some o) : Fr g L h' m :=
  ⟨F.ns.at' fun o e => hk L o hL e, fun b o e => hk b o (fun q => by rw [q, hg] at e; cases e) (F.keep b o e), F.above⟩
theorem News_but {g h h' : Heap} {L P : Addr} {o o' : Obj} {rest : List (Addr × Obj)} (N : News g L h ((P, o) :: rest)) (hP : ∀ p ∈ rest, p.1 ≠ P) (hk : ∀ b o, b ≠ P → h.get? b = some o → h'.get? b = some o) (e : h'.get? P = some o') : News g L h' ((P, o') :: rest) := fun q hq => by
  rcases List.mem_cons.mp hq with rfl | hq
  · exact ⟨e, (N (P, o) List.mem_cons_self).2⟩
  · have := N q (List.mem_cons_of_mem _ hq)
    exact ⟨hk _ _ (hP q hq) this.1, this.2⟩
end Mine

-- FLen
theorem Mine.gap_FLen : True ∧ True := by w_top off; walk1 <;> trivial
namespace Mine
open PySem PySem.W PySem.Calls PyProof.Rows
set_option maxRecDepth 100000
local macro_rules | `(tactic| walk_at "execs cons") => `(tactic| ((refine wpAny_execs_cons (gen_toks fun tk => hideQ fun _ _ => ?_)); (try dsimp only)))
local macro_rules | `(tactic| walk_at "Hid") => `(tactic| (refine unhide (by assumption) ?_))
local macro_rules | `(tactic| walk_at "execs nil") => `(tactic| ((refine wpAny_execs_nil ?_); (try dsimp only)))
local macro_rules | `(tactic| walk_at "pyIter ref") => `(tactic| ((with_reducible show wpAny _ _ (pyIter _) _ _ _); refine Halt.of ?_))
local macro_rules | `(tactic| walk_at "call builtin:len") => `(tactic| (k_here; (with_reducible show wpAny _ _ (call (Value.builtin "len") [Value.ref _]) _ _ _); k_dflt (refine' kst_len ?k1 ?k2 rfl ?k4 ?_; (case k1 => k_asm); (case k2 => exact List.mem_cons_self); (case k4 => omega); k_whole)))
local macro_rules | `(tactic| walk_at "call builtin:list.append") => `(tactic| (k_here; (with_reducible show wpAny _ _ (call (Value.builtin "list.append") [Value.ref _, _]) _ _ _); k_dflt (refine' append_K ?k1 ?k2 (Upd.head ?k3) ?_ ?k4; (case k1 => k_asm); (case k2 => k_asm); (case k3 => assumption); (case k4 => (simp only [List.size_toArray, sizeLine_eq]; omega)); k_whole); intro h' F' N'))
local macro_rules | `(tactic| walk_at "ite") => `(tactic| first | with_reducible refine ite_tt ?_ | with_reducible refine ite_ff ?_ | (with_reducible refine split_ine ?_ ?_ <;> intro _) | (with_reducible refine split_ieq ?_ ?_ <;> intro _) | with_reducible refine split_not ?_ | (refine split_dec ?_ ?_ <;> intro _) | (refine split_bool ?_ ?_ <;> intro _) | rw [if_pos True.intro] | rw [if_neg not_false])
local macro_rules | `(tactic| walk_at "InvPostN") => `(tactic| ((with_reducible show InvPostN _ _ _ _ _ _ _ _ _); refine Halt.of ?_))
local macro_rules | `(tactic| walk_at "CompSrc") => `(tactic| ((with_reducible show LCg.CompSrc _ _ _ _ _ _ _ _ _ _ _ _ _ _); refine Halt.of ?_))
local macro_rules | `(tactic| walk_at "CompSrcT") => `(tactic| ((with_reducible show LCt.CompSrcT _ _ _ _ _ _ _ _ _ _ _ _ _ _ _); refine Halt.of ?_))

local macro_rules | `(tactic| walk_at "exec For Name Call cons nil") => `(tactic| (with_unfolding_all refine For_to ?_))
local macro_rules | `(tactic| walk_at "exec For Name Name cons nil") => `(tactic| (with_unfolding_all refine For_to ?_))
local macro_rules | `(tactic| walk_at "exec For Name Call cons cons") => `(tactic| (with_unfolding_all refine For_to ?_))
local macro_rules | `(tactic| walk_at "exec For") => `(tactic| (with_unfolding_all refine For_to ?_))
theorem len_code (w : World) {h : Heap} {ps : Array Value} (X : (hd.heap_1 w.params).In h) (h70 : h.get? 70 = some (tabObj ps)) (ht : TriplesOk ps.toList) : h.IsCode 74 70 ps ∧ h.TableAt 74 70 ps := by
  have e : ∃ o, (hd.heap_1 w.params).lookup 74 = some o ∧ o.cls = .type "code" ∧ ∃ vs, o.data = .fields vs ∧ vs[11]? = some (.ref 70) ∧ vs.getD 11 .none = .ref 70 ∧ (∃ file tf, vs.getD 18 .none = .str file tf) ∧ (∃ fl tg, vs.getD 7 .none = .int fl tg) ∧ (∃ b, vs.getD 9 .none = .bool b) ∧ ∃ tx tt, vs.getD 10 .none = .int tx tt :=
    ⟨_, rfl, rfl, _, rfl, rfl, rfl, ⟨_, _, rfl⟩, ⟨_, _, rfl⟩, ⟨_, rfl⟩, ⟨_, _, rfl⟩⟩
  obtain ⟨o, ho, hc, vs, hd, h1, h2, ⟨file, tf, h3⟩, ⟨fl, tg, h4⟩, ⟨b, h5⟩, ⟨tx, tt, h6⟩⟩ := e
  have hg := X 74 o ho
  exact ⟨⟨o, vs, file, tf, fl, tg, b, tx, tt, _, hg, hd, h2, h3, h4, h5, h6, h70, rfl, ht, by decide⟩, ⟨o, vs, hg, hc, hd, h1⟩, h70⟩
def lenAt (prs : List Pr) (j : Nat) : Int := (prs[j]?.map fun q => ((q.2.1.length + q.2.2.2.1.length : Nat) : Int)).getD 0
set_option maxHeartbeats 4000000 in
theorem len_spec (w : World) (p : Program) (loose : List Str) (mean : ExcName → Option Value) (mg mb : Str → Option Value) (x dx : Addr) (prs : List Pr) (n : Nat) (od : Obj) (tz : Tok) (ps : Array Value) (rest : List (Addr × Obj)) (ht : TriplesOk ps.toList) (hx : (x, accObj dx (prIts prs) n) ∈ rest) (hdx : (dx, od) ∈ rest) (hT : ∀ q ∈ prs, (q.1, prTup q) ∈ rest) (h70 : ∀ p ∈ rest, p.1 ≠ 70)
    (hod : findObj (hd.heap_1 w.params) 107 (some od) (Str.ofString "_initial_size") = some (.value (.int 0 tz))) (hsh : ∀ q ∈ prs, q.2.1.length ≤ 1000 ∧ q.2.2.2.1.length ≤ 1000) :
    Spec2 w p loose mean mg mb 2 75 ((70, tabObj ps) :: rest) [.ref x] (fun r nw => ∃ ps' t, TriplesOk ps'.toList ∧ nw = (70, tabObj ps') :: rest ∧ r = .int (preSum (lenAt prs) prs.length) t) := by
  unfold Spec2
  k_fill
  intro dp un gd cn cs a ccd cl outer A₀ base h₀ L m s Q E B F X N T hbare hk hdp hun hret
  have hdp' : dp + 1 < recursionLimit := by omega
  have kMark : KstMark := kstMark
  have e0 : nsIn (hd.heap_1 w.params) mainGlobals (Str.ofString "len") = some none := by k_is
  refine wpAny_call ?_
  k_dflt (refine' code_def ?k1 ?k2 ?k3 ?k4 ?k5 ?kA ?kF ?kK ?k6 ?k7 ?k8 ?k9 ?kB ?_ ?c2 ?c3 ?c4 ?c5; (case kA => exact rfl); (case kF => exact rfl); (case kK => assumption); (case k1 => k_asm); (case k2 => k_asm); (case k3 => k_asm); (case k4 => k_asm); (case k5 => k_asm); (case k6 => k_is); (case k7 => k_is); (case k8 => (first | exact room_of (dp := dp) hdp (by decide) | exact room_of2 (dp := dp) hdp (by decide) | ktr_room)); (case k9 => exact BindsTo.of_eq rfl); (case c5 => decide); (case kB => exact locs rfl); (case c2 => exact rfl); (case c3 => exact rfl); (case c4 => exact rfl); k_whole)
  intro g' L' h' FG' F' N' B' X' T'
  (try dsimp only)
  (try k_lift B')
  (try k_fold)
  (try refine wpAny_noRaise ?_)
  k_steps
  have hx' := N' _ (List.mem_cons_of_mem _ hx)
  have hd' := N' _ (List.mem_cons_of_mem _ hdx)
  have X2 := X'.keeps (Fr.keep F')
  have h70' := N' _ List.mem_cons_self
  obtain ⟨hc1, hc2⟩ := len_code w X2 h70'.1 ht
  refine genexp_acc (p := p) (loose := loose) (mean := mean) (mg := mg) (mb := mb) (h₀ := g') 74 70 x dx ps prs n od (fun q y => ∃ t, y = .int ((q.2.1.length + q.2.2.2.1.length : Nat) : Int) t) X' T' (Fr.keep F') hc1 hc2 h70'.2.2 hx'.1 hd'.1 (h70 _ hx) hbare
    (fun q hq => ⟨(N' _ (List.mem_cons_of_mem _ (hT q hq))).1, h70 _ (hT q hq)⟩) ?_ ?_ ?_ rfl rfl rfl rfl rfl (by decide) rfl rfl rfl (by decide) rfl (by (first | exact room_of (dp := dp) hdp (by decide) | exact room_of2 (dp := dp) hdp (by decide) | ktr_room)) (by intro _; rfl)
  · intro Q' q
    exact nameX_L F' rfl q
  · intro C code A' E' q s₂ m₂ hA hq hn ha hb hk2
    exact len_elt X' T' hk2 rfl rfl rfl rfl hn rfl rfl rfl (by decide) (by decide) ha hb (hsh q hq).1 (hsh q hq).2 e0 rfl rfl
  · intro ga h₅ tk5 gs ps' K ht' hb' hle hk5 hp5 G5
    have F5 := Fr_but F' h70'.2.2 (Ne.symm h70'.2.1) hk5
    have N5 := News_but N' h70 hk5 hp5
    k_steps
    have hx5 := (N5 _ (List.mem_cons_of_mem _ hx)).1
    have hd5 := (N5 _ (List.mem_cons_of_mem _ hdx)).1
    refine acc_attr (X'.keeps (Fr.keep F5)) hx5 hd5 hod rfl ?_
    k_steps
    refine sum_gen (K := K) (n := prs.length) (F := fun j y => ∃ q, prs[j]? = some q ∧ ∃ t, y = .int ((q.2.1.length + q.2.2.2.1.length : Nat) : Int) t) hb' ?_ (lenAt prs) ?_ ?_
    · exact Gen_toks G5 _ (Nat.le_succ _)
    · rintro j v ⟨q, hq, t, rfl⟩
      exact ⟨t, by unfold lenAt; rw [hq]; rfl⟩
    · intro h6 tk6 g6 t6 hb6 hk6
      have hk56 : ∀ b o, b ≠ 70 → h'.get? b = some o → h6.get? b = some o := fun b o hb e => hk6 b o (hle b o e) (hk5 b o hb e)
      have F6 := Fr_but F' h70'.2.2 (Ne.symm h70'.2.1) hk56
      have N6 := News_but N' h70 hk56 (hk6 70 _ (hle _ _ h70'.1) hp5)
      k_steps
      exact hret _ _ _ _ _ hb6 (by assumption) (by assumption) ⟨ps', t6, ht', rfl, rfl⟩
end Mine

-- JoinG
theorem Mine.gap_JoinG : True ∧ True := by w_top off; walk1 <;> trivial
namespace Mine
open PySem PySem.W PySem.Calls PyProof.Rows
set_option maxRecDepth 100000
section
variable {prog : Program} {w : World} {A : Around} {E : Value → Shared → Prop} {s : Shared}
/-- join over a genexp -/
theorem join_gen {K a : Addr} {n : Nat} {F : Nat → Value → Prop} {sep : Str} {t : Tok} {Q : Value → Shared → Prop} (G : AllBare s.gens) (X : Gen prog w A K a n F s) (tx : Nat → Str) (htx : ∀ j v, F j v → ∃ u, v = .str (tx j) u)
    (hok : JoinOk sep ((List.range n).map tx) = true) (hsz : n ≤ sizeLine)
    (hQ : ∀ h' tk' g' t', AllBare g' → (∀ b o, b ≤ K → s.heap.get? b = some o → h'.get? b = some o) → Q (.str (Txt.join sep ((List.range n).map tx)) t') { s with heap := h', toks := tk', gens := g' }) : wpAny (model prog w) A (call (.builtin "str.join") [.str sep t, .ref a]) Q E s := by
  obtain ⟨fp, wr, g, St, W, hst, hT, ha, hfp, hwr⟩ := X
  have W := W.in4_2
  refine SC.joinGen W hT hst hfp ha (fun j v hv => let ⟨u, e⟩ := htx j v hv; ⟨_, u, e⟩) (fun s' lt hm hacc => ?_) hsz
  have hl : lt.map (·.1) = (List.range n).map tx := by
    have hsz : lt.length = n := by simpa [strValues] using hacc.1
    refine List.ext_getElem (by simp [hsz]) fun j h1 h2 => ?_
    have hj : j < lt.length := by simpa using h1
    obtain ⟨u, hv⟩ := htx j _ (hacc.2 j (.str lt[j].1 lt[j].2) (by simp [strValues, List.getElem?_eq_getElem hj]))
    injection hv with h3 _
    simp [h3]
  rw [hl]
  refine ⟨hok, fun t' k => ?_⟩
  have e : ({ s' with toks := k } : Shared) = { s with heap := s'.heap, toks := k, gens := s'.gens } := by
    have h1 := hm.drawn
    have h2 := hm.os
    cases s'; simp only at h1 h2; subst h1; subst h2; rfl
  rw [e]
  exact hQ _ _ _ _ (G.movedS hm) fun b o hb e => hm.heap b o (fun hmem => Nat.lt_irrefl _ (Nat.lt_of_lt_of_le (hwr b hmem) hb)) e
end
end Mine

-- FStr
theorem Mine.gap_FStr : True ∧ True := by w_top off; walk1 <;> trivial
namespace Mine
open PySem PySem.W PySem.Calls PyProof.Rows
set_option maxRecDepth 100000
local macro_rules | `(tactic| walk_at "execs cons") => `(tactic| ((refine wpAny_execs_cons (gen_toks fun tk => hideQ fun _ _ => ?_)); (try dsimp only)))
local macro_rules | `(tactic| walk_at "Hid") => `(tactic| (refine unhide (by assumption) ?_))
local macro_rules | `(tactic| walk_at "execs nil") => `(tactic| ((refine wpAny_execs_nil ?_); (try dsimp only)))
local macro_rules | `(tactic| walk_at "pyIter ref") => `(tactic| ((with_reducible show wpAny _ _ (pyIter _) _ _ _); refine Halt.of ?_))
local macro_rules | `(tactic| walk_at "call builtin:len") => `(tactic| (k_here; (with_reducible show wpAny _ _ (call (Value.builtin "len") [Value.ref _]) _ _ _); k_dflt (refine' kst_len ?k1 ?k2 rfl ?k4 ?_; (case k1 => k_asm); (case k2 => exact List.mem_cons_self); (case k4 => omega); k_whole)))
local macro_rules | `(tactic| walk_at "call builtin:list.append") => `(tactic| (k_here; (with_reducible show wpAny _ _ (call (Value.builtin "list.append") [Value.ref _, _]) _ _ _); k_dflt (refine' append_K ?k1 ?k2 (Upd.head ?k3) ?_ ?k4; (case k1 => k_asm); (case k2 => k_asm); (case k3 => assumption); (case k4 => (simp only [List.size_toArray, sizeLine_eq]; omega)); k_whole); intro h' F' N'))
local macro_rules | `(tactic| walk_at "ite") => `(tactic| first | with_reducible refine ite_tt ?_ | with_reducible refine ite_ff ?_ | (with_reducible refine split_ine ?_ ?_ <;> intro _) | (with_reducible refine split_ieq ?_ ?_ <;> intro _) | with_reducible refine split_not ?_ | (refine split_dec ?_ ?_ <;> intro _) | (refine split_bool ?_ ?_ <;> intro _) | rw [if_pos True.intro] | rw [if_neg not_false])
local macro_rules | `(tactic| walk_at "InvPostN") => `(tactic| ((with_reducible show InvPostN _ _ _ _ _ _ _ _ _); refine Halt.of ?_))
local macro_rules | `(tactic| walk_at "CompSrc") => `(tactic| ((with_reducible show LCg.CompSrc _ _ _ _ _ _ _ _ _ _ _ _ _ _); refine Halt.of ?_))
local macro_rules | `(tactic| walk_at "CompSrcT") => `(tactic| ((with_reducible show LCt.CompSrcT _ _ _ _ _ _ _ _ _ _ _ _ _ _ _); refine Halt.of ?_))

local macro_rules | `(tactic| walk_at "exec For Name Call cons nil") => `(tactic| (with_unfolding_all refine For_to ?_))
local macro_rules | `(tactic| walk_at "exec For Name Name cons nil") => `(tactic| (with_unfolding_all refine For_to ?_))
local macro_rules | `(tactic| walk_at "exec For Name Call cons cons") => `(tactic| (with_unfolding_all refine For_to ?_))
local macro_rules | `(tactic| walk_at "exec For") => `(tactic| (with_unfolding_all refine For_to ?_))
theorem str_code (w : World) {h : Heap} {ps : Array Value} (X : (hd.heap_1 w.params).In h) (h77 : h.get? 77 = some (tabObj ps)) (ht : TriplesOk ps.toList) : h.IsCode 81 77 ps ∧ h.TableAt 81 77 ps := by
  have e : ∃ o, (hd.heap_1 w.params).lookup 81 = some o ∧ o.cls = .type "code" ∧ ∃ vs, o.data = .fields vs ∧ vs[11]? = some (.ref 77) ∧ vs.getD 11 .none = .ref 77 ∧ (∃ file tf, vs.getD 18 .none = .str file tf) ∧ (∃ fl tg, vs.getD 7 .none = .int fl tg) ∧ (∃ b, vs.getD 9 .none = .bool b) ∧ ∃ tx tt, vs.getD 10 .none = .int tx tt :=
    ⟨_, rfl, rfl, _, rfl, rfl, rfl, ⟨_, _, rfl⟩, ⟨_, _, rfl⟩, ⟨_, rfl⟩, ⟨_, _, rfl⟩⟩
  obtain ⟨o, ho, hc, vs, hd, h1, h2, ⟨file, tf, h3⟩, ⟨fl, tg, h4⟩, ⟨b, h5⟩, ⟨tx, tt, h6⟩⟩ := e
  have hg := X 81 o ho
  exact ⟨⟨o, vs, file, tf, fl, tg, b, tx, tt, _, hg, hd, h2, h3, h4, h5, h6, h77, rfl, ht, by decide⟩, ⟨o, vs, hg, hc, hd, h1⟩, h77⟩
def strAt (prs : List Pr) (j : Nat) : Str := (prs[j]?.map fun q => q.2.1 ++ q.2.2.2.1).getD Str.empty
set_option maxHeartbeats 4000000 in
theorem str_spec (w : World) (p : Program) (loose : List Str) (mean : ExcName → Option Value) (mg mb : Str → Option Value) (x dx : Addr) (prs : List Pr) (n : Nat) (od : Obj) (ps : Array Value) (rest : List (Addr × Obj)) (ht : TriplesOk ps.toList) (hx : (x, accObj dx (prIts prs) n) ∈ rest) (hdx : (dx, od) ∈ rest) (hT : ∀ q ∈ prs, (q.1, prTup q) ∈ rest) (h77 : ∀ p ∈ rest, p.1 ≠ 77)
    (hsh : ∀ q ∈ prs, q.2.1.length ≤ 1000 ∧ q.2.2.2.1.length ≤ 1000) (hn : prs.length ≤ 1000) :
    Spec2 w p loose mean mg mb 2 82 ((77, tabObj ps) :: rest) [.ref x] (fun r nw => ∃ ps' t, TriplesOk ps'.toList ∧ nw = (77, tabObj ps') :: rest ∧ r = .str (Txt.join Str.empty ((List.range prs.length).map (strAt prs))) t) := by
  unfold Spec2
  k_fill
  intro dp un gd cn cs a ccd cl outer A₀ base h₀ L m s Q E B F X N T hbare hk hdp hun hret
  have hdp' : dp + 1 < recursionLimit := by omega
  have kMark : KstMark := kstMark
  have e0 : ∃ te, nsIn (hd.heap_1 w.params) mainGlobals (Str.ofString "EMPTYSTRING") = some (some (.str Str.empty te)) := ⟨_, by k_is⟩
  obtain ⟨te, e0⟩ := e0
  refine wpAny_call ?_
  k_dflt (refine' code_def ?k1 ?k2 ?k3 ?k4 ?k5 ?kA ?kF ?kK ?k6 ?k7 ?k8 ?k9 ?kB ?_ ?c2 ?c3 ?c4 ?c5; (case kA => exact rfl); (case kF => exact rfl); (case kK => assumption); (case k1 => k_asm); (case k2 => k_asm); (case k3 => k_asm); (case k4 => k_asm); (case k5 => k_asm); (case k6 => k_is); (case k7 => k_is); (case k8 => (first | exact room_of (dp := dp) hdp (by decide) | exact room_of2 (dp := dp) hdp (by decide) | ktr_room)); (case k9 => exact BindsTo.of_eq rfl); (case c5 => decide); (case kB => exact locs rfl); (case c2 => exact rfl); (case c3 => exact rfl); (case c4 => exact rfl); k_whole)
  intro g' L' h' FG' F' N' B' X' T'
  (try dsimp only)
  (try k_lift B')
  (try k_fold)
  (try refine wpAny_noRaise ?_)
  k_steps
  have hx' := N' _ (List.mem_cons_of_mem _ hx)
  have hd' := N' _ (List.mem_cons_of_mem _ hdx)
  have X2 := X'.keeps (Fr.keep F')
  have h77' := N' _ List.mem_cons_self
  obtain ⟨hc1, hc2⟩ := str_code w X2 h77'.1 ht
  refine genexp_acc (p := p) (loose := loose) (mean := mean) (mg := mg) (mb := mb) (h₀ := g') 81 77 x dx ps prs n od (fun q y => ∃ t, y = .str (q.2.1 ++ q.2.2.2.1) t) X' T' (Fr.keep F') hc1 hc2 h77'.2.2 hx'.1 hd'.1 (h77 _ hx) hbare
    (fun q hq => ⟨(N' _ (List.mem_cons_of_mem _ (hT q hq))).1, h77 _ (hT q hq)⟩) ?_ ?_ ?_ rfl rfl rfl rfl rfl (by decide) rfl rfl rfl (by decide) rfl (by (first | exact room_of (dp := dp) hdp (by decide) | exact room_of2 (dp := dp) hdp (by decide) | ktr_room)) (by intro _; rfl)
  · intro Q' q
    exact nameX_L F' rfl q
  · intro C code A' E' q s₂ m₂ hA hq hn ha hb hk2
    exact join_elt X' T' hk2 rfl rfl rfl hn rfl rfl rfl (by decide) (by decide) ha hb (hsh q hq).1 (hsh q hq).2 e0 rfl rfl rfl rfl rfl
  · intro ga h₅ tk5 gs ps' K ht' hb' hle hk5 hp5 G5
    have F5 := Fr_but F' h77'.2.2 (Ne.symm h77'.2.1) hk5
    have N5 := News_but N' h77 hk5 hp5
    k_steps
    refine join_gen (K := K) (n := prs.length) (F := fun j y => ∃ q, prs[j]? = some q ∧ ∃ t, y = .str (q.2.1 ++ q.2.2.2.1) t) hb' ?_ (strAt prs) ?_ ?_ ?_ ?_
    · exact Gen_toks G5 _ (Nat.le_refl _)
    · rintro j v ⟨q, hq, t, rfl⟩
      exact ⟨t, by unfold strAt; rw [hq]; rfl⟩
    · refine joinOk_of ?_
      have e1 : (Str.ofString "").length = 0 := by decide +kernel
      have e2 : ∀ l : List Nat, (((l.map (strAt prs)).map (·.length)).sum ≤ 2000 * l.length) := by
        intro l
        induction l with
        | nil => simp
        | cons j r ih =>
          have : (strAt prs j).length ≤ 2000 := by
            unfold strAt
            cases e : prs[j]? with
            | none => exact Nat.zero_le _
            | some q =>
              have := hsh q (List.mem_of_getElem? e)
              show (q.2.1 ++ q.2.2.2.1).length ≤ 2000
              rw [Str.length_append]; omega
          simp only [List.map_cons, List.sum_cons, List.length_cons]; omega
      have e3 := e2 (List.range prs.length)
      rw [List.length_range] at e3
      rw [e1]; omega
    · rw [sizeLine_eq]; omega
    · intro h6 tk6 g6 t6 hb6 hk6
      have hk56 : ∀ b o, b ≠ 77 → h'.get? b = some o → h6.get? b = some o := fun b o hb e => hk6 b o (hle b o e) (hk5 b o hb e)
      have F6 := Fr_but F' h77'.2.2 (Ne.symm h77'.2.1) hk56
      have N6 := News_but N' h77 hk56 (hk6 77 _ (hle _ _ h77'.1) hp5)
      k_steps
      exact hret _ _ _ _ _ hb6 (by assumption) (by assumption) ⟨ps', t6, ht', rfl, rfl⟩
end Mine

-- Misc
theorem Mine.gap_Misc : True ∧ True := by w_top off; walk1 <;> trivial
namespace Mine
open PySem PySem.W PySem.Calls PyProof.Rows
section
variable {prog : Program} {w : World} {A : Around} {s : Shared} {h₀ : Heap} {m : Str → Option Value} {env : Env}
/-- a cell takes a value, at the store itself -/
theorem store_cell {L : Addr} {x : Str} {c : Addr} {oc : Obj} {vc : Option Value} {v : Value} {Q : Unit → Shared → Prop} {E : Value → Shared → Prop} (pre post : List (Addr × Obj))
    (hk : env.scope.kind = .function) (hl : env.kindOf x = some .cell) (hc : env.cells.lookup x = some c) (F : Fr h₀ L s.heap m) (N : News h₀ L s.heap (pre ++ (c, oc) :: post)) (ho : oc.data = .cell vc) (a : ∀ p ∈ pre, p.1 ≠ c) (b : ∀ p ∈ post, p.1 ≠ c)
    (h : ∀ o' h' tk, o'.data = .cell (some v) → Fr h₀ L h' m → News h₀ L h' (pre ++ (c, o') :: post) → Q () { s with heap := h', toks := tk }) : wpAny (model prog w) A (storeName env x v) Q E s := by
  have z := N (c, oc) (List.mem_append.mpr (.inr (.head _)))
  refine wpAny_storeName_cell hk hl hc ⟨oc, z.1, ho⟩ fun h' hc' hs => ?_
  obtain ⟨o', e, hd⟩ := hc'
  exact h o' h' _ hd (F.change hs z.2.1 z.2.2) (news_set N a b hs e)
/-- is a text among a list's texts? -/
theorem in_strs {a : Addr} {xs : List Value} {ns : List Str} {x : Str} {t : Tok} {Q : Value → Shared → Prop} {E : Value → Shared → Prop} (ha : s.heap.IsList a xs.toArray) (hi : StrsAre xs ns) (on : okS ns) (ox : PyData.strOk x = true) (hu : A.units + 64 < cLine) (h : Q (.bool (ns.contains x)) s) :
    wpAny (model prog w) A (compareOp .In (.str x t) (.ref a)) Q E s := by
  refine SeqAt.in_list_reads (reads_strD ha hi) (.str x t) (lay_strs on) ?_ ?_ ?_
  · show (PyData.strOk x) = true
    exact ox
  · rw [depth_strs]; show A.units + 1 + min 0 _ < _; omega
  · have e : ((ns.map PyData.str).any fun y => PyData.eqv y (.str x)) = ns.contains x := by
      clear h hi on ha ox hu
      induction ns with
      | nil => rfl
      | cons y r ih =>
        rw [List.map_cons, List.any_cons, ih, List.contains_cons]
        congr 1
        by_cases q : y = x
        · subst q; simp [PyData.eqv]
        · have q' : ¬ x = y := fun h => q h.symm
          simp only [PyData.eqv]
          rw [beq_eq_false_iff_ne.mpr q, beq_eq_false_iff_ne.mpr q']
    rw [e]; exact h
end
end Mine

-- AccNew
theorem Mine.gap_AccNew : True ∧ True := by w_top off; walk1 <;> trivial
namespace Mine
open PySem PySem.W PySem.Calls PyProof.Rows Builtin Builtin.ObjectAttr Builtin.Getset_descriptor
set_option maxRecDepth 100000
theorem kf_start4 (w : World) : PySem.Challenge.rw_zd0009_01 = PySem.Challenge.rw_zd0009_01 → findIn (hd.heap_1 w.params) (.ref 107) "__getattr__" = some none := by k_fill; intro _; k_is
theorem an_made (w : World) (p : Program) : peek (hd.heap_1 w.params) ⟨p, w.params⟩ (Bind.madeBy (.ref 107)) = some (some "list.__new__") := by with_unfolding_all rfl
theorem an_base (w : World) (p : Program) : peek (hd.heap_1 w.params) ⟨p, w.params⟩ (Bind.staticBase (.ref 107)) = some (.ref 107) := by with_unfolding_all rfl
theorem an_call (w : World) : specialIn (hd.heap_1 w.params) (.ref 107) "__call__" = some (some (.builtin "type.__call__")) := by k_is
theorem an_typ (w : World) : instIn (hd.heap_1 w.params) (.ref 107) (.type "type") = some true := by k_is
theorem an_subL (w : World) : mroIn (hd.heap_1 w.params) 107 (.type "list") = some true := by k_is
theorem an_self (w : World) : mroIn (hd.heap_1 w.params) 107 (.ref 107) = some true := by k_is
theorem an_init (w : World) : findIn (hd.heap_1 w.params) (.ref 107) "__init__" = some (some (.ref 46)) := by k_is
theorem an_fn (w : World) : typeIn (hd.heap_1 w.params) (.ref 46) = some (.type "function") := by k_is
theorem an_mro (w : World) : (clsIn (hd.heap_1 w.params) 107).map (·.mro.isEmpty) = some false := by with_unfolding_all rfl
theorem an_obj (w : World) : ∃ oc od cd sl, (hd.heap_1 w.params).lookup 107 = some ⟨oc, od, .cls cd, sl⟩ ∧ cd.abstract = false ∧ cd.hasDel = false ∧ cd.mro.isEmpty = false := ⟨_, _, _, _, rfl, rfl, rfl, rfl⟩
section
variable {prog : Program} {w : World} {A : Around} {R : Result → Shared → Prop} {h : Heap} {g : Array GenState} {d : Drawn} {t : Nat} {os : OsState}
theorem ln_check (h : Heap) (X : (KH w).In h) (A : Around) (Q : Unit → Shared → Prop) (E : Value → Shared → Prop) (s : Shared) (k : ∀ b o, h.get? b = some o → s.heap.get? b = some o) (q : Q () s) : wpAny (model prog w) A (checkBuiltinCall "list.__new__" ⟨[.ref 107], []⟩) Q E s := by
  have hk : builtinKind "list.__new__" = some .builtinFn := by decide +kernel
  have hs : splitId "list.__new__" = some ("list", "__new__") := by decide +kernel
  have hr : Manifest.signature? "list.__new__" = some ⟨.any, "list", "list", .cls, [⟨"args", .varPos, false⟩, ⟨"kwargs", .varKw, false⟩]⟩ := by kernel_rfl
  have hc : Bind.checkArgs "list.__new__" ⟨.any, "list", "list", .cls, [⟨"args", .varPos, false⟩, ⟨"kwargs", .varKw, false⟩]⟩ ⟨[.ref 107], []⟩ = pure () := by kernel_rfl
  have X' := X.keeps k
  obtain ⟨oc, od, cd, sl, ho, e1, e2, e4⟩ := an_obj w
  have hC := X' 107 _ ho
  have typ : Looks (model prog w) s.heap (isInstance (.ref 107) (.type "type")) true := looks_instIn X' (an_typ w)
  have made : Looks (model prog w) s.heap (Bind.madeBy (.ref 107)) (some "list.__new__") := Looks.of_peek X' (an_made w prog)
  have base : Looks (model prog w) s.heap (Bind.staticBase (.ref 107)) (.ref 107) := Looks.of_peek X' (an_base w prog)
  have subL : Looks (model prog w) s.heap (isSubtype (.ref 107) (.type "list")) true := looks_mroIn X' (an_subL w)
  simp only [checkBuiltinCall, hk, hs, hr, hc]
  repeat (first | simp only [bne_self_eq_false, Bool.false_eq_true, if_false] | lk)
  exact q
theorem acc_new (X : (KH w).In h) (hq : codeAny (model prog w) (A.under (.builtin "type.__call__" ⟨[.ref 107], []⟩)) (.call (.ref 46) ⟨[.ref (h.objs.size + 1)], []⟩) (InitBack (h.objs.size + 1) R) ⟨(h.push emptyDict).push (accObj h.objs.size #[] 0), g, d, t, os⟩) :
    codeAny (model prog w) A (.call (.ref 107) ⟨[], []⟩) R ⟨h, g, d, t, os⟩ := by
  obtain ⟨oc, od, cd, sl, ho, e1, e2, e4⟩ := an_obj w
  have hC := X 107 _ ho
  have call : Looks (model prog w) h (specialOf (.ref 107) "__call__") (some (.builtin "type.__call__")) := looks_specialIn X (an_call w)
  have typ : Looks (model prog w) h (isInstance (.ref 107) (.type "type")) true := looks_instIn X (an_typ w)
  have made : Looks (model prog w) h (Bind.madeBy (.ref 107)) (some "list.__new__") := Looks.of_peek X (an_made w prog)
  have subL : Looks (model prog w) h (isSubtype (.ref 107) (.type "list")) true := looks_mroIn X (an_subL w)
  have self : Looks (model prog w) h (isSubtype (.ref 107) (.ref 107)) true := looks_mroIn X (an_self w)
  have hi : Looks (model prog w) h (typeLookup (.ref 107) "__init__") (some (.ref 46)) := looks_findIn X (an_init w)
  refine codeAny_of_tree ?_
  show wpAny _ _ (callAny (.ref 107) _) _ _ _
  refine nd_load hC ?_
  show wpAny _ _ (callAny.viaDunder (.ref 107) _) _ _ _
  unfold callAny.viaDunder
  refine wpAny_bind (call.at ?_)
  dsimp only
  rw [tc_bind]
  refine wpAny_bind (wpAny_pure (wpAny_bind (wpAny_pure ?_)))
  refine wpAny_pure (a := Fin.again (.call (.builtin "type.__call__") ⟨[.ref 107], []⟩)) (And.intro rfl ?_)
  refine codeAny_call_builtin_at (Code.quiet_builtin _ (by decide +kernel)) entry_typeCall (check_slot tc_kind tc_split typ (tc_args _ _ _) ?_)
  unfold Builtin.«type.__call__»
  have hm : Looks (model prog w) h (mroOf (.ref 107)) cd.mro := ((Looks.ld (part := none) hC).andThen .now).andThen .now
  repeat (first | simp only [e4, Bool.false_eq_true, if_false] | with_reducible refine wpAny_call ?_ | lk)
  refine codeAny_of_tree ?_
  show wpAny _ _ (do checkBuiltinCall "list.__new__" ⟨[.ref 107], []⟩; again (.builtin "list.__new__" ⟨[.ref 107], []⟩)) _ _ _
  refine wpAny_bind (ln_check h X _ _ _ _ (fun _ _ e => e) (wpAny_pure ⟨plainId_quiet PySem.F.plain_list_new _, codeAny_builtin_stack PySem.F.entry_list_new rfl fun p st => ?_⟩))
  rw [Around.under_plainId PySem.F.plain_list_new _]
  have hown := owner_list_new
  simp only [hown]
  have up : ∀ b o, h.get? b = some o → ((h.push emptyDict).push (accObj h.objs.size #[] 0)).get? b = some o := fun b o e => Heap.get?_push_of_some _ (Heap.get?_push_of_some _ e)
  have hC' := up _ _ hC
  have hx : ((h.push emptyDict).push (accObj h.objs.size #[] 0)).get? (h.objs.size + 1) = some (accObj h.objs.size #[] 0) := by
    have := Heap.get?_push_size (h.push emptyDict) (show (accObj h.objs.size #[] 0).isFreed = false from rfl)
    rwa [Heap.size_push] at this
  have t1 : Looks (model prog w) ((h.push emptyDict).push (accObj h.objs.size #[] 0)) (typeOf (.ref (h.objs.size + 1))) (.ref 107) := (Looks.ld hx).andThen .now
  have s1 := self.keeps up
  have i1 := hi.keeps up
  have b1 := (bind_fn (M := model prog w) X (.ref (h.objs.size + 1)) (an_fn w)).keeps up
  repeat (first | simp only [Bool.false_eq_true, if_false] | lk)
  have fin : wpAny (model prog w) (A.under (.builtin "type.__call__" ⟨[.ref 107], []⟩)) (do
      let ok ← isInstance (.ref (h.objs.size + 1)) (.ref 107)
      if (!ok) = true then do
        rule "type.call.new-gave-other-type"
        ret (.ref (h.objs.size + 1))
      else do
        match (← holding [.ref (h.objs.size + 1)] (callSpecial? (.ref (h.objs.size + 1)) (Str.ofString "__init__"))) with
        | none => ret (.ref (h.objs.size + 1))
        | some r =>
          if (r != Value.none) = true then do
            rule "type.call.init-returned-value"
            let n ← PySem.typeNameOf r
            raiseErrorMade "TypeError" (toString "__init__() should return None, not '" ++ toString n ++ toString "'")
            ret (.ref (h.objs.size + 1))
          else ret (.ref (h.objs.size + 1)))
      (fun fin s' => match fin with | .done f => R (.ok f) s' | .again c' => c'.quiet = true ∧ codeAny (model prog w) A c' R s') (fun e s' => R (.error e) s') ⟨(h.push emptyDict).push (accObj h.objs.size #[] 0), g, d, t, os⟩ := by
    unfold isInstance callSpecial? specialOf
    repeat (first | with_reducible refine wpAny_call ?_ | lk)
    refine codeAny_mono hq fun r s' z => ?_
    rcases r with e | (v | _ | _ | _) <;> first | exact z | exact z.elim | skip
    obtain ⟨rfl, z⟩ := z
    exact wpAny_pure (wpAny_pure z)
  rw [e2]
  refine wpAny_pure (wpAny_pure ?_)
  dsimp only
  rw [Heap.size_push]
  exact fin
end
end Mine

-- AccSet
theorem Mine.gap_AccSet : True ∧ True := by w_top off; walk1 <;> trivial
namespace Mine
open PySem PySem.W PySem.Calls PyProof.Rows Builtin Builtin.ObjectAttr Builtin.Getset_descriptor
set_option maxRecDepth 100000
theorem kf_start5 (w : World) : PySem.Challenge.rw_zd0009_01 = PySem.Challenge.rw_zd0009_01 → findIn (hd.heap_1 w.params) (.ref 107) "__getattr__" = some none := by k_fill; intro _; k_is
theorem as_mro (w : World) (p : Program) : peek (hd.heap_1 w.params) ⟨p, w.params⟩ (mroOf (.ref 107)) = some [.ref 107, .type "list", .type "object"] := by with_unfolding_all rfl
theorem as_sa (w : World) : findIn (hd.heap_1 w.params) (.ref 107) "__setattr__" = some (some (.builtin "object.__setattr__")) := by k_is
theorem as_none (w : World) : findIn (hd.heap_1 w.params) (.ref 107) (Str.ofString "_initial_size") = some none := by k_is
theorem as_obj (w : World) : mroIn (hd.heap_1 w.params) 107 (.type "object") = some true := by k_is
theorem as_pass (self : Value) : refuseLoop self "__setattr__" [.ref 107, .type "list", .type "object"] = pure () := by
  rw [refuseLoop_ref]
  kernel_rfl
theorem as_cls (w : World) : (clsIn (hd.heap_1 w.params) 107).any (·.hasDict) = true := by with_unfolding_all rfl
theorem as_taker (w : World) : takerIn (hd.heap_1 w.params) 107 (Str.ofString "_initial_size") = some none := by unfold takerIn; rw [as_none]; rfl
section
variable {prog : Program} {w : World} {A : Around} {E : Value → Shared → Prop} {s : Shared} {h₀ : Heap} {L : Addr} {m : Str → Option Value}
/-- the dict of an accumulator, once its size is kept -/
noncomputable abbrev setOd (w : World) (v : Value) (tk : Nat) : Obj := Obj.putName (Str.ofString "_initial_size") (PyData.keyHash w.params (Str.ofString "_initial_size")) (.str (Str.ofString "_initial_size") tk) v emptyDict
theorem setOd_data (w : World) (v : Value) (tk : Nat) : ∃ es n, setOd w v tk = { cls := .type "dict", data := .dict es n } ∧ es.size ≤ 10 := ⟨_, _, rfl, by simp⟩
theorem acc_set {x dx : Addr} {its : Array Value} {k : Nat} {v : Value} {pre post : List (Addr × Obj)} {Q : Unit → Shared → Prop} (X : (KH w).In s.heap) (F : Fr h₀ L s.heap m) (N : News h₀ L s.heap (pre ++ (dx, emptyDict) :: post)) (hx : s.heap.get? x = some (accObj dx its k)) (h1 : ∀ p ∈ pre, p.1 ≠ dx) (h2 : ∀ p ∈ post, p.1 ≠ dx)
    (h : ∀ h', Fr h₀ L h' m → News h₀ L h' (pre ++ (dx, setOd w v (s.toks + 1)) :: post) → Q () { s with heap := h', toks := s.toks + 2 }) :
    wpAny (model prog w) A (setAttr (.ref x) (Str.ofString "_initial_size") v) Q E s := by
  have D := (N (dx, emptyDict) (by simp)).1
  have I := acc_inst hx D
  obtain ⟨hh, g, d, tk, os⟩ := s
  have L0 := I.type (M := model prog w)
  have sub : Looks (model prog w) hh (isInstance (.ref x) (.type "object")) true := L0.andThen (looks_mroIn X (as_obj w))
  have hm : Looks (model prog w) hh (mroOf (.ref 107)) [.ref 107, .type "list", .type "object"] := Looks.of_peek X (as_mro w prog)
  have SF := PySem.F.store_object
  refine set_plain X I (as_sa w) ?_
  refine codeAny_call_builtin SF.slot.plain SF.entry (@check_slot (model prog w) _ _ ⟨hh, g, d, tk + 1, os⟩ "object.__setattr__" "object" "__setattr__" (.ref x) [.str (Str.ofString "_initial_size") tk, v] [] _ SF.kind SF.split sub (SF.args (.ref x) (.str (Str.ofString "_initial_size") tk) v) ?_)
  rw [osa_eq, refuse_eq]
  refine wpAny_bind (wpAny_bind (L0.at (wpAny_bind (hm.at ?_))))
  rw [as_pass]
  refine wpAny_pure (wpAny_bind (L0.at (wpAny_bind ((looks_findIn X (as_none w)).at (wpAny_bind (wpAny_pure ?_))))))
  obtain ⟨cd, hc, hd'⟩ := any_some (as_cls w)
  obtain ⟨U1, U2⟩ := news_upd (f := Obj.putName (Str.ofString "_initial_size") (PyData.keyHash w.params (Str.ofString "_initial_size")) (.str (Str.ofString "_initial_size") (tk + 1)) v) (o' := setOd w v (tk + 1)) F N h1 h2 rfl (by obtain ⟨es, n, e, _⟩ := setOd_data w v (tk + 1); rw [e]; rfl)
  have D' := (U2 (dx, setOd w v (tk + 1)) (by simp)).1
  have D1 := setOd_data w v (tk + 1)
  refine wpAny_bind (wpAny_pure (wpAny_bind (wpAny_bind (wpAny_loadPart hx (wpAny_bind ((looks_clsIn X hc).at ?_))))))
  rw [hd']
  refine wpAny_pure (a := some dx) (wpAny_bind (wpAny_pure (wpAny_bind ?_)))
  unfold nsSet
  refine wpAny_bind (wpAny_bind (wpAny_askSetting (wpAny_pure (wpAny_bind (wpAny_mkText (wpAny_bind (wpAny_loadPart D ?_)))))))
  dsimp only
  have c : (!(#[] : Array DictEntry).any (·.key.isStr (Str.ofString "_initial_size")) && (#[] : Array DictEntry).any (·.refKey)) = false := by simp
  rw [aRefKeyMayBeTheName_at, c]
  refine wpAny_updatePart D ?_
  refine wpAny_bind (wpAny_lookBehind D' (by obtain ⟨es, n, e, hz⟩ := D1; rw [e]; exact pastItsLine_dict (by rw [sizeLine_eq]; omega)) ?_)
  exact wpAny_pure (h _ U1 U2)
end
end Mine

-- AccSup
theorem Mine.gap_AccSup : True ∧ True := by w_top off; walk1 <;> trivial
namespace Mine
open PySem PySem.W PySem.Calls PyProof.Rows Builtin Builtin.ObjectAttr Builtin.Getset_descriptor
set_option maxRecDepth 100000
theorem kf_start6 (w : World) : PySem.Challenge.rw_zd0009_01 = PySem.Challenge.rw_zd0009_01 → findIn (hd.heap_1 w.params) (.ref 107) "__getattr__" = some none := by k_fill; intro _; k_is
theorem wd_slot : Slot "wrapper_descriptor" "__get__" "wrapper_descriptor.__get__" := .of (owner := "wrapper_descriptor") (n := "__get__") (by rw [typeLookup_type, builtinLookup_eq_fast]; kernel_rfl) (by decide +kernel) (by decide +kernel) (by decide +kernel) (.inl (by decide +kernel)) (by rw [isSubtype_type]; kernel_rfl)
theorem wd_entry : entryFor table "wrapper_descriptor.__get__" = some Builtin.«wrapper_descriptor.__get__» := entryFor_of_tree (by kernel_rfl)
theorem wd_args (a b c : Value) : argsOk "wrapper_descriptor.__get__" ⟨[a, b, c], []⟩ := by unfold argsOk; kernel_rfl
theorem wd_type : typeOf (.builtin "list.__init__") = pure (.type "wrapper_descriptor") := by show builtinType _ = _; rw [builtinType_eq_fast]; kernel_rfl
theorem as_along (w : World) : alongIn (hd.heap_1 w.params) (Str.ofString "__init__") [.type "list", .type "object"] = some (some (.builtin "list.__init__")) := by with_unfolding_all rfl
theorem as_opq (w : World) : nsIn (hd.heap_1 w.params) cStatics "thirdparty.any" = some none := by k_is
abbrev mwObj (x : Addr) : Obj := { cls := .type "method-wrapper", data := .fields #[.builtin "list.__init__", .ref x] }
section
variable {prog : Program} {w : World} {A : Around} {E : Value → Shared → Prop} {h : Heap} {g : Array GenState} {d : Drawn} {t : Nat} {os : OsState}
theorem wd_get {x : Addr} {Q : Value → Shared → Prop} (X : (KH w).In h) (L0 : Looks (model prog w) h (typeOf (.ref x)) (.ref 107)) (hq : Q (.ref h.objs.size) ⟨h.push (mwObj x), g, d, t, os⟩) :
    wpAny (model prog w) A (call (.builtin "wrapper_descriptor.__get__") [.builtin "list.__init__", .ref x, .ref 107]) Q E ⟨h, g, d, t, os⟩ := by
  have hT : (⟨h, g, d, t, os⟩ : Shared).TypeIs (.builtin "list.__init__") "wrapper_descriptor" := wd_type
  have sub : ∀ T, T = "list" → Looks (model prog w) h (isSubtype (.ref 107) (.type T)) true := fun T e => e ▸ looks_mroIn X (an_subL w)
  refine wpAny_call_entry wd_slot hT wd_entry ?_ (wd_args _ _ _)
  unfold Builtin.«wrapper_descriptor.__get__»
  repeat (first | (with_reducible refine Looks.at (sub _ (by decide +kernel)) ?_) | lk)
  exact ⟨_, rfl, hq⟩
set_option maxHeartbeats 2000000 in
theorem sup_ga {so x : Addr} {tk : Tok} {name : Str} {v : Value} {Q : Fin → Shared → Prop} (hf : alongIn (hd.heap_1 w.params) name [.type "list", .type "object"] = some (some v)) (hv : v = .builtin "list.__init__") (hn : (name == ("__class__" : Str)) = false) (X : (KH w).In h) (hso : h.get? so = some (ks_superObj 107 x 107)) (L0 : Looks (model prog w) h (typeOf (.ref x)) (.ref 107)) (hxC : x ≠ 107)
    (hq : Q (.done (.ret (.ref h.objs.size))) ⟨h.push (mwObj x), g, d, t, os⟩) :
    wpAny (model prog w) A (Builtin.«super.__getattribute__» ⟨[.ref so, .str name tk], []⟩) Q E ⟨h, g, d, t, os⟩ := by
  have hne : (Value.ref x == Value.ref 107) = false := by simp [hxC]
  have hm : Looks (model prog w) h (mroOf (.ref 107)) [.ref 107, .type "list", .type "object"] := Looks.of_peek X (as_mro w prog)
  have hno : Looks (model prog w) h (opaqueClassAbove (.ref 107)) none := looks_opaque X (as_opq w)
  have hl : ([.ref 107, .type "list", .type "object"].dropWhile (· != Value.ref 107)).drop 1 = [Value.type "list", Value.type "object"] := by decide +kernel
  have hdt : (ks_superObj 107 x 107).data = .fields #[.ref 107, .ref x, .ref 107] := rfl
  have f0 : (#[.ref 107, .ref x, .ref 107] : Array Value)[0]? = some (.ref 107) := rfl
  have f1 : (#[.ref 107, .ref x, .ref 107] : Array Value)[1]? = some (.ref x) := rfl
  have f2 : (#[.ref 107, .ref x, .ref 107] : Array Value)[2]? = some (.ref 107) := rfl
  have hlk := wd_slot.lookup
  have hty : typeOf v = pure (.type "wrapper_descriptor") := hv ▸ wd_type
  have hwd : ∀ {A : Around} {E : Value → Shared → Prop} {Q : Value → Shared → Prop}, Q (.ref h.objs.size) ⟨h.push (mwObj x), g, d, t, os⟩ → wpAny (model prog w) A (call (.builtin "wrapper_descriptor.__get__") [v, .ref x, .ref 107]) Q E ⟨h, g, d, t, os⟩ := hv ▸ wd_get X L0
  unfold Builtin.«super.__getattribute__»
  repeat (first
    | (with_reducible refine wpAny_field hso hdt f0 ?_) | (with_reducible refine wpAny_field hso hdt f1 ?_) | (with_reducible refine wpAny_field hso hdt f2 ?_)
    | (with_reducible refine ks_wpAny_notOpaque hno ?_)
    | (with_reducible refine Looks.at hm ?_; rw [hl])
    | (refine ks_forIn_along X (fun _ _ => rfl) rfl ?_ hf)
    | (with_reducible refine wpAny_of_eq hty ?_)
    | (with_reducible refine wpAny_of_eq hlk ?_)
    | (with_reducible refine hwd ?_)
    | (simp only [hn, hne, Bool.or_false, Bool.false_eq_true, if_false])
    | wp_step
    | dsimp only)
  all_goals exact hq
theorem sup_meth {so x : Addr} {pl : Sem Bool} {Q : Value × List Value → Shared → Prop} (X : (KH w).In h) (hso : h.get? so = some (ks_superObj 107 x 107)) (L0 : Looks (model prog w) h (typeOf (.ref x)) (.ref 107)) (hxC : x ≠ 107)
    (hq : Q (.ref h.objs.size, []) ⟨h.push (mwObj x), g, d, t + 1, os⟩) : wpAny (model prog w) A (getMethod (.ref so) (Str.ofString "__init__") pl) Q E ⟨h, g, d, t, os⟩ := by
  have hlk := F.ks_slot_super_ga.lookup
  have hcan := F.ks_canon_super_ga
  have hT : ∀ t', (⟨h, g, d, t', os⟩ : Shared).TypeIs (.ref so) "super" := fun _ => ⟨_, hso, rfl⟩
  unfold getMethod
  refine wpAny_bind (wpAny_specialOf (hT _) hlk ?_)
  show wpAny _ _ (if (Manifest.canonical "super.__getattribute__" != "object.__getattribute__") = true then _ else _) _ _ _
  rw [if_pos hcan]
  unfold getAttr getAttrBy
  refine wpAny_bind (wpAny_bind (wpAny_mkText (wpAny_holding (wpAny_bind (wpAny_typeOf (hT _) (wpAny_bind (wpAny_of_eq hlk ?_)))))))
  show wpAny _ _ (getAttrByItsOwn (.ref so) (.str (Str.ofString "__init__") t) (.type "super") (.builtin "super.__getattribute__") true false) _ _ _
  unfold getAttrByItsOwn hookBefore callGetattribute boundAndCalled
  refine wpAny_bind (wpAny_of_eq (show (if onTheHeap (.type "super") then typeLookup (.type "super") "__getattr__" else pure none) = pure none from rfl) ?_)
  refine wpAny_bind (wpAny_attempt (wpAny_holding ?_))
  show wpAny _ _ (bindSpecial (.builtin "super.__getattribute__") (.ref so) >>= _) _ _ _
  refine wpAny_bind (wpAny_of_eq (F.ks_slot_super_ga.bind _) ?_)
  refine wpAny_mono (Q := fun v s' => v = .ref h.objs.size ∧ s' = ⟨h.push (mwObj x), g, d, t + 1, os⟩) (E := fun _ _ => False)
    (wpAny_call_entry F.ks_slot_super_ga (hT _) F.ks_entry_super_ga (sup_ga (as_along w) rfl (by decide +kernel) X hso L0 hxC ⟨_, rfl, rfl, rfl⟩) (F.ks_gaArgs_super _ _)) (fun v s' hv => ?_) fun _ _ z => z.elim
  obtain ⟨rfl, rfl⟩ := hv
  exact wpAny_pure (wpAny_pure hq)
theorem li_check (x : Value) : checkBoundCall "list.__init__" ⟨[x], []⟩ = pure () := by kernel_rfl
theorem mw_call {mw x dx : Addr} {k : Nat} {Q : Value → Shared → Prop} (hmw : h.get? mw = some (mwObj x)) (hx : h.get? x = some (accObj dx #[] k))
    (hq : ∀ h', Heap.SameBut x h h' → h'.get? x = some (accObj dx #[] k) → Q .none ⟨h', g, d, t, os⟩) : wpAny (model prog w) A (call (.ref mw) []) Q E ⟨h, g, d, t, os⟩ := by
  refine wpAny_call (codeAny_of_tree ?_)
  show wpAny _ _ (callAny (.ref mw) _) _ _ _
  refine nd_load hmw ?_
  show wpAny _ _ (checkBoundCall "list.__init__" ⟨[.ref x], []⟩ >>= fun _ => again (.builtin "list.__init__" ⟨[.ref x], []⟩)) _ _ _
  rw [li_check]
  refine wpAny_bind (wpAny_pure (wpAny_pure ?_))
  refine (show _ ∧ _ from ⟨plainId_quiet (by decide +kernel) _, codeAny_builtin PySem.F.entry_list_init ?_⟩)
  rw [Around.under_plainId (by decide +kernel) _]
  unfold Builtin.«list.__init__»
  simp only [List.isEmpty_nil, List.length_nil, Bool.not_true, Bool.false_eq_true, if_false]
  refine wpAny_bind (m := Builtin.List.listItems _) ?_
  show wpAny _ _ (seqItems? (.ref x) >>= _) _ _ _
  refine wpAny_bind (wpAny_seqItems hx rfl (wpAny_pure ?_))
  refine wpAny_bind (m := Builtin.List.listUpdate _ _) ?_
  show wpAny _ _ (updateSeq x _) _ _ _
  refine wpAny_updateSeq hx rfl ?_
  refine wpAny_bind (wpAny_letGo (wpAny_pure ?_))
  refine hq _ (Heap.SameBut.update ..) ?_
  rw [Heap.get?_update_self _ hx (by unfold Obj.mapSeq; simp [Obj.isFreed])]
  unfold Obj.mapSeq
  simp
theorem mw_keep (x mw : Addr) (M : Model) (h : Heap) (e : h.get? mw = some (mwObj x)) : ∃ k, (k = Keeper.frame ∨ k = Keeper.machine ∨ k = Keeper.boundFrame) ∧ Looks M h (keeperOf (.ref mw)) k :=
  ⟨.machine, .inr (.inl rfl), (Looks.ld (part := none) e).andThen .now⟩
theorem mw_callWith {env : Env} {pos : Pos} {mw x : Addr} {s : Shared} {Q : Value → Shared → Prop} (e : s.heap.get? mw = some (mwObj x)) (hq : wpAny (model prog w) A (call (.ref mw) ([] ++ [])) Q E s) : wpAny (model prog w) A (callWith pos (.ref mw) [] (backTo pos (starEach [] env)) []) Q E s :=
  callWith_of (P := fun h => h.get? mw = some (mwObj x)) rfl (fun h e => mw_keep x mw _ h e) (evalArgs_nil3 ⟨e, hq⟩)
end
end Mine

-- FInit
theorem Mine.gap_FInit : True ∧ True := by w_top off; walk1 <;> trivial
namespace Mine
open PySem PySem.W PySem.Calls PyProof.Rows
set_option maxRecDepth 100000
local macro_rules | `(tactic| walk_at "execs cons") => `(tactic| ((refine wpAny_execs_cons (gen_toks fun tk => hideQ fun _ _ => ?_)); (try dsimp only)))
local macro_rules | `(tactic| walk_at "Hid") => `(tactic| (refine unhide (by assumption) ?_))
local macro_rules | `(tactic| walk_at "execs nil") => `(tactic| ((refine wpAny_execs_nil ?_); (try dsimp only)))
local macro_rules | `(tactic| walk_at "pyIter ref") => `(tactic| ((with_reducible show wpAny _ _ (pyIter _) _ _ _); refine Halt.of ?_))
local macro_rules | `(tactic| walk_at "call builtin:len") => `(tactic| (k_here; (with_reducible show wpAny _ _ (call (Value.builtin "len") [Value.ref _]) _ _ _); k_dflt (refine' kst_len ?k1 ?k2 rfl ?k4 ?_; (case k1 => k_asm); (case k2 => exact List.mem_cons_self); (case k4 => omega); k_whole)))
local macro_rules | `(tactic| walk_at "call builtin:list.append") => `(tactic| (k_here; (with_reducible show wpAny _ _ (call (Value.builtin "list.append") [Value.ref _, _]) _ _ _); k_dflt (refine' append_K ?k1 ?k2 (Upd.head ?k3) ?_ ?k4; (case k1 => k_asm); (case k2 => k_asm); (case k3 => assumption); (case k4 => (simp only [List.size_toArray, sizeLine_eq]; omega)); k_whole); intro h' F' N'))
local macro_rules | `(tactic| walk_at "ite") => `(tactic| first | with_reducible refine ite_tt ?_ | with_reducible refine ite_ff ?_ | (with_reducible refine split_ine ?_ ?_ <;> intro _) | (with_reducible refine split_ieq ?_ ?_ <;> intro _) | with_reducible refine split_not ?_ | (refine split_dec ?_ ?_ <;> intro _) | (refine split_bool ?_ ?_ <;> intro _) | rw [if_pos True.intro] | rw [if_neg not_false])
local macro_rules | `(tactic| walk_at "InvPostN") => `(tactic| ((with_reducible show InvPostN _ _ _ _ _ _ _ _ _); refine Halt.of ?_))
local macro_rules | `(tactic| walk_at "eval ListComp") => `(tactic| ((with_reducible show wpAny _ _ (eval (Expr.ListComp _ _ _ _) _) _ _ _); refine Halt.of ?_))
local macro_rules | `(tactic| walk_at "exec Assign cons ListComp") => `(tactic| ((with_reducible show wpAny _ _ (exec (Stmt.Assign _ (Expr.ListComp _ _ _ _) _) _) _ _ _); refine Halt.of ?_))
local macro_rules | `(tactic| walk_at "CSrc") => `(tactic| ((with_reducible show CSrc _ _ _ _ _ _ _ _ _ _ _ _ _ _ _ _); refine Halt.of ?_))
local macro_rules | `(tactic| walk_at "CEnd") => `(tactic| ((with_reducible show CEnd _ _ _ _ _ _ _ _ _ _ _ _ _ _); refine Halt.of ?_))
local macro_rules | `(tactic| walk_at "Turn") => `(tactic| ((with_reducible show Turn _ _ _ _ _ _ _ _ _ _); refine Halt.of ?_))

local macro_rules | `(tactic| walk_at "exec For Name Call cons nil") => `(tactic| (with_unfolding_all refine For_to ?_))
local macro_rules | `(tactic| walk_at "exec For Name Name cons nil") => `(tactic| (with_unfolding_all refine For_to ?_))
local macro_rules | `(tactic| walk_at "exec For Name Call cons cons") => `(tactic| (with_unfolding_all refine For_to ?_))
local macro_rules | `(tactic| walk_at "exec For") => `(tactic| (with_unfolding_all refine For_to ?_))
/-- the dict of an accumulator -/
def OD (w : World) (od : Obj) : Prop := lookIn (Str.ofString "append") od = some none ∧ lookIn (Str.ofString "push") od = some none ∧ ∃ tz, findObj (hd.heap_1 w.params) 107 (some od) (Str.ofString "_initial_size") = some (.value (.int 0 tz))
theorem setOd_OD (w : World) (t : Tok) (tk : Nat) : OD w (setOd w (.int 0 t) tk) := by
  refine ⟨by with_unfolding_all rfl, by with_unfolding_all rfl, t, ?_⟩
  exact findObj_own (by with_unfolding_all rfl) (as_none w) rfl (by with_unfolding_all rfl)
set_option maxHeartbeats 4000000 in
theorem new_spec (w : World) (p : Program) (loose : List Str) (mean : ExcName → Option Value) (mg mb : Str → Option Value) (news : List (Addr × Obj)) :
    Spec w p loose mean mg mb 3 107 news [] (fun r tl => ∃ (x dx : Addr) (od : Obj) (k : Nat), r = .ref x ∧ tl = [(x, accObj dx #[] k), (dx, od)] ∧ OD w od ∧ (∀ q ∈ news, q.1 < dx) ∧ dx < x) := by
  unfold Spec
  k_fill
  intro dp un gd cn cs a ccd cl outer A₀ base h₀ L m s Q E B F X N T hk hdp hun hret
  have hdp' : dp + 1 < recursionLimit := by omega
  have kMark : KstMark := kstMark
  refine wpAny_call ?_
  obtain ⟨hh, gg, dd, tt, os⟩ := s
  refine acc_new (X.keeps F.keep) ?_
  have F1 := (F.push emptyDict).push (accObj hh.objs.size #[] 0)
  have N1 := (N.push F emptyDict).push (F.push _) (accObj hh.objs.size #[] 0)
  have lt1 : ∀ q ∈ news, q.1 < hh.objs.size := fun q hq => Heap.lt_size (N q hq).1
  rw [Heap.size_push] at N1
  generalize hdx : hh.objs.size = dx at *
  have lt2 : dx < dx + 1 := Nat.lt_succ_self _
  generalize hx : dx + 1 = x at *
  have KX := X.keeps F1.keep
  k_dflt (refine' ks_code_super ?k1 ?k2 ?k3 ?k4 ?k5 ?kA ?kF ?kK ?k6 ?k7 ?k8 ?k9 ?kB ?_ ?c1 ?c2 ?c3 ?c4; (case kA => exact rfl); (case kF => exact rfl); (case kK => assumption); (case k1 => k_asm); (case k2 => k_asm); (case k3 => k_asm); (case k4 => k_asm); (case k5 => k_asm); (case k6 => k_is); (case k7 => k_is); (case k8 => (first | exact room_of (dp := dp) hdp (by decide) | exact room_of2 (dp := dp) hdp (by decide) | ktr_room)); (case k9 => (refine' binds_K ?bX ?bd ?bo ?bs ?bh1 ?bh2; (case bX => exact KX); (case bd => exact rfl); (case bo => exact rfl); (case bs => exact rfl); (case bh1 => exact rfl); (case bh2 => exact rfl))); (case kB => exact locs rfl); (case c1 => decide); (case c2 => exact rfl); (case c3 => exact rfl); (case c4 => exact rfl))
  intro g' L' h' FG' F' N' B' X' T' l1
  (try dsimp only)
  (try k_lift B')
  (try k_fold)
  (try refine wpAny_noRaise ?_)
  k_steps
  have hx1 := (N' (x, accObj dx #[] 0) List.mem_cons_self).1
  refine acc_set (pre := [(x, accObj dx #[] 0)]) (post := news) (X'.keeps F'.keep) F' N' hx1 ?_ ?_ ?_
  · exact List.forall_mem_cons.mpr ⟨Nat.ne_of_gt lt2, List.forall_mem_nil _⟩
  · exact fun q hq => Nat.ne_of_lt (lt1 q hq)
  intro h2 F2 N2
  simp only [List.cons_append, List.nil_append] at N2
  generalize hod : setOd w (Value.int 0 253) _ = od at N2
  dsimp only
  refine ks_wpAt_execs_cons ?_
  refine ks_wpAt_Expr_any ?_
  refine ks_wpAt_MethodCall ?_
  have hx2 := (N2 (x, accObj dx #[] 0) List.mem_cons_self).1
  have hd2 := (N2 (dx, od) (List.mem_cons_of_mem _ List.mem_cons_self)).1
  refine ks_node F2 X' N2 T' (by k_is) (by rfl) (by rfl) (acc_inst hx2 hd2) (by k_is) (by rfl) (by first | rfl | decide +kernel) (by k_is) (by k_is) (by k_is) (by k_is) (by decide) (by rfl) (by rfl) (by rfl) (by rfl) (by decide +kernel) (by first | boot_by_name | rfl | kernel_rfl) ?_
  intro so h3 F3 N3 lso
  have hso := (N3 _ List.mem_cons_self).1
  have hx3 := (N3 (x, accObj dx #[] 0) (List.mem_cons_of_mem _ List.mem_cons_self)).1
  have hd3 := (N3 (dx, od) (List.mem_cons_of_mem _ (List.mem_cons_of_mem _ List.mem_cons_self))).1
  refine sup_meth (X'.keeps F3.keep) hso ((acc_inst hx3 hd3).type) ?_ ?_
  · intro q
    have h107 := (an_obj w)
    obtain ⟨oc, od', cd, sl, ho, _⟩ := h107
    have := (N3 (x, accObj dx #[] 0) (List.mem_cons_of_mem _ List.mem_cons_self)).2.2
    have e := X' 107 _ ho
    have q' : x = 107 := q
    rw [q'] at this
    rw [e] at this; cases this
  have F4 := F3.push (mwObj x)
  have N4 := N3.push F3 (mwObj x)
  have lt4 : ∀ q ∈ (so, ks_superObj 107 x 107) :: (x, accObj dx #[] 0) :: (dx, od) :: news, q.1 < h3.objs.size := fun q hq => Heap.lt_size (N3 q hq).1
  generalize hmw : h3.objs.size = mw at *
  have hmw4 := (N4 _ List.mem_cons_self).1
  have hx4 := N4 (x, accObj dx #[] 0) (List.mem_cons_of_mem _ (List.mem_cons_of_mem _ List.mem_cons_self))
  refine mw_callWith hmw4 ?_
  refine mw_call hmw4 hx4.1 ?_
  intro h5 hs5 hx5
  have F5 := F4.change hs5 hx4.2.1 hx4.2.2
  have N5 : News g' L' h5 ((x, accObj dx #[] 0) :: (dx, od) :: news) := fun q hq => by
    rcases List.mem_cons.mp hq with rfl | hq
    · exact ⟨hx5, hx4.2⟩
    · have hq4 := N4 q (List.mem_cons_of_mem _ (List.mem_cons_of_mem _ (List.mem_cons_of_mem _ hq)))
      have hqx : q.1 ≠ x := by
        rcases List.mem_cons.mp hq with rfl | hq
        · exact Nat.ne_of_lt lt2
        · exact Nat.ne_of_lt (Nat.lt_trans (lt1 q hq) lt2)
      exact ⟨hs5.extBut _ _ hqx hq4.1, hq4.2⟩
  dsimp only
  k_steps
  exact hret _ [(x, accObj dx #[] 0), (dx, od)] _ _ (by assumption) (by assumption) ⟨x, dx, od, 0, rfl, rfl, hod ▸ setOd_OD w _ _, lt1, lt2⟩
end Mine

-- AccPush
theorem Mine.gap_AccPush : True ∧ True := by w_top off; walk1 <;> trivial
namespace Mine
open PySem PySem.W PySem.Calls PyProof.Rows
set_option maxRecDepth 100000
theorem kf_start7 (w : World) : PySem.Challenge.rw_zd0009_01 = PySem.Challenge.rw_zd0009_01 → findIn (hd.heap_1 w.params) (.ref 107) "__getattr__" = some none := by k_fill; intro _; k_is
theorem ap_find (w : World) : findIn (hd.heap_1 w.params) (.ref 107) (Str.ofString "push") = some (some (.ref 53)) := by k_is
theorem ap_fn (w : World) : typeIn (hd.heap_1 w.params) (.ref 53) = some (.type "function") := by k_is
section
variable {prog : Program} {w : World} {A : Around} {E : Value → Shared → Prop} {s : Shared}
theorem acc_getPush {x dx : Addr} {its : Array Value} {n : Nat} {od : Obj} {pl : Sem Bool} {Q : Value × List Value → Shared → Prop} (X : (KH w).In s.heap) (h1 : s.heap.get? x = some (accObj dx its n)) (h2 : s.heap.get? dx = some od)
    (hod : lookIn (Str.ofString "push") od = some none) (h : Q (.ref 53, [.ref x]) s) : wpAny (model prog w) A (getMethod (.ref x) (Str.ofString "push") pl) Q E s := by
  have I := acc_inst h1 h2
  have e1 : findIn (hd.heap_1 w.params) (.ref 107) "__getattribute__" = some (some (.builtin "list.__getattribute__")) := by k_is
  have e2 : findIn (hd.heap_1 w.params) (.ref 107) "__getattr__" = some none := by k_is
  have s1 : Looks (model prog w) s.heap (specialOf (.ref x) "__getattribute__") (some (.builtin "list.__getattribute__")) := I.type.andThen (looks_findIn X e1)
  have s2 : Looks (model prog w) s.heap (specialOf (.ref x) "__getattr__") none := I.type.andThen (looks_findIn X e2)
  have s3 : Looks (model prog w) s.heap (specialOf (.ref x) (Str.ofString "push")) (some (.ref 53)) := I.type.andThen (looks_findIn X (ap_find w))
  have s4 : Looks (model prog w) s.heap (typeOf (.ref 53)) (.type "function") := looks_typeIn X (ap_fn w)
  unfold getMethod
  refine wpAny_bind (s1.here ?_)
  have c1 : (Manifest.canonical "list.__getattribute__" != "object.__getattribute__") = false := by decide +kernel
  simp only [c1, Bool.false_eq_true, if_false]
  refine wpAny_bind (s2.here ?_)
  simp only [Option.isSome_none, Bool.false_eq_true, if_false]
  refine wpAny_bind (s3.here ?_)
  dsimp only
  refine wpAny_bind (s4.here ?_)
  have c2 : ((Value.type "function" != Value.type "function" && Value.type "function" != Value.type "method_descriptor" && Value.type "function" != Value.type "wrapper_descriptor")) = false := by decide +kernel
  simp only [c2, Bool.false_eq_true, if_false]
  refine wpAny_bind (wpAny_loadPart h1 ?_)
  dsimp only
  have e4 : Looks (model prog w) s.heap (nsGet dx (Str.ofString "push")) none := by
    unfold nsGet
    refine (Looks.ld h2).andThen ?_
    rw [nsLook_of hod]; exact Looks.now
  refine wpAny_bind (e4.here ?_)
  simp only [Option.isSome_none, Bool.false_eq_true, if_false]
  exact wpAny_bind (wpAny_rule (wpAny_pure h))
end
end Mine

-- CompG
theorem Mine.gap_CompG : True ∧ True := by w_top off; walk1 <;> trivial
namespace Mine
open PySem PySem.W PySem.Calls PyProof.Rows
open LCg (NsObj lst fr_but news_but)
abbrev Off (I C D : Addr) (nw : List (Addr × Obj)) : Prop := ∀ p ∈ nw, p.1 ≠ I ∧ p.1 ≠ C ∧ p.1 ≠ D
/-- where a turn of a comprehension ends; generators may have been made -/
def CEnd (h₀ : Heap) (L : Addr) (m : Str → Option Value) (s₁ : Shared) (I : Addr) (oI : Obj) (C : Addr) (oC : Obj) (D : Addr) (oD : Obj) (S : List (Addr × Obj) → Prop) (rest : Value → List (Addr × Obj) → Array GenState → Prop) (y : Value) (s₂ : Shared) : Prop :=
  ∃ h' tk g news', s₂ = { s₁ with heap := h', toks := tk, gens := g } ∧ Fr h₀ L h' m ∧ News h₀ L h' ((I, oI) :: (C, oC) :: (D, oD) :: news') ∧ Off I C D news' ∧ S news' ∧ rest y news' g
theorem CEnd.intro {h₀ : Heap} {L I C D : Addr} {m : Str → Option Value} {s₁ : Shared} {oI oC oD : Obj} {S : List (Addr × Obj) → Prop} {rest : Value → List (Addr × Obj) → Array GenState → Prop} {y : Value} {h' : Heap} {tk : Nat} {g : Array GenState} {all : List (Addr × Obj)}
    (F : Fr h₀ L h' m) (N : News h₀ L h' all) (news' : List (Addr × Obj)) (sub : ∀ p ∈ (I, oI) :: (C, oC) :: (D, oD) :: news', p ∈ all) (off : Off I C D news') (hS : S news') (r : rest y news' g) :
    CEnd h₀ L m s₁ I oI C oC D oD S rest y { s₁ with heap := h', toks := tk, gens := g } := ⟨h', tk, g, news', rfl, F, fun p hp => N p (sub p hp), off, hS, r⟩
/-- what is known of an iterable of n items P -/
structure SrcFacts (prog : Program) (w : World) (A : Around) (h₀ : Heap) (L : Addr) (n : Nat) (P : Nat → Value → Prop) (S : List (Addr × Obj) → Prop) (news : List (Addr × Obj)) (s₁ : Shared) (I : Addr) (h : Heap) (fp : List Addr) (St : Nat → Heap → Prop) : Prop where
  W : Walks prog w A I fp [I] n P St
  io : ∀ i h, St i h → ∃ o, h.get? I = some o
  st : ∀ i h h' o nw, St i h → h.get? I = some o → h'.get? I = some o → (∀ b o, h₀.get? b = some o → h'.get? b = some o) → News h₀ L h' nw → S nw → St i h'
  st0 : St 0 h
  fplt : ∀ b ∈ fp, b < h.objs.size
  up : ∀ b o, s₁.heap.get? b = some o → h.get? b = some o
  li : L ≠ I
  base : h₀.get? I = none
  off : ∀ p ∈ news, p.1 ≠ I
  old : ∀ p ∈ news, p.1 < I
def SrcOk (prog : Program) (w : World) (A : Around) (h₀ : Heap) (L : Addr) (xv : Value) (s₁ : Shared) (n : Nat) (P : Nat → Value → Prop) (S : List (Addr × Obj) → Prop) (news : List (Addr × Obj)) : Prop :=
  ∀ (Q : Value → Shared → Prop) (E : Value → Shared → Prop), (∀ I h fp St, SrcFacts prog w A h₀ L n P S news s₁ I h fp St → Q (.ref I) { s₁ with heap := h }) → wpAny (model prog w) A (pyIter xv) Q E s₁
section
variable {prog : Program} {w : World} {A : Around} {E : Value → Shared → Prop} {s : Shared} {h₀ : Heap} {L : Addr} {m : Str → Option Value} {env : Env}
theorem src_range {r : Addr} {a b : Int} {t u v : Tok} {n : Nat} {news : List (Addr × Obj)} {s₁ : Shared} (hh : A.handled = none) (F : Fr h₀ L s₁.heap m) (N : News h₀ L s₁.heap news) (hr : IsRange s₁.heap r a b 1 t u v) (hsm : Builtin.Range.small a b 1 = true) (hn : Builtin.Range.rangeSize a b 1 = ((n : Nat) : Int)) :
    SrcOk prog w A h₀ L (.ref r) s₁ n (fun i v => ∃ t, v = .int (a + (i : Int)) t) (fun _ => True) news := by
  intro Q E hQ
  refine wpAny_pyIter_range hr hsm (hQ _ _ [s₁.heap.objs.size] (fun i h => IsRangeIter h s₁.heap.objs.size (a + (i : Nat) * 1) ((n : Int) - (i : Nat)) 1) ?_)
  have lt : ∀ p ∈ news, p.1 < s₁.heap.objs.size := fun p hp => Heap.lt_size (N p hp).1
  exact ⟨LCg.range_walks hh a n, fun i h st => ⟨_, st⟩, LCg.range_st, by show IsRangeIter _ _ _ _ _; rw [hn]; simpa using Heap.get?_push_size _ rfl, fun b hb => by rw [List.mem_singleton.mp hb, Heap.size_push]; exact Nat.lt_succ_self _,
    fun _ _ e => Heap.get?_push_of_some _ e, Nat.ne_of_lt F.ns.lt, next_is_new F, fun p hp => Nat.ne_of_lt (lt p hp), lt⟩
theorem src_list {ax : Addr} {us : List Value} {k : Nat} {news : List (Addr × Obj)} {s₁ : Shared} (hh : A.handled = none) (F : Fr h₀ L s₁.heap m) (N : News h₀ L s₁.heap news) (hm : (ax, listOf us.toArray k) ∈ news) :
    SrcOk prog w A h₀ L (.ref ax) s₁ us.length (fun i v => us[i]? = some v) (fun nw => (ax, listOf us.toArray k) ∈ nw) news := by
  intro Q E hQ
  have hl : s₁.heap.IsList ax us.toArray := N.isList hm
  have hlt : ax < s₁.heap.objs.size := Heap.lt_size (N _ hm).1
  have lt : ∀ p ∈ news, p.1 < s₁.heap.objs.size := fun p hp => Heap.lt_size (N p hp).1
  refine wpAny_pyIter_list hl (hQ _ _ [s₁.heap.objs.size, ax] (fun i h => h.IsListIter s₁.heap.objs.size ax i ∧ h.IsList ax us.toArray) ?_)
  have W := Walks.list (prog := prog) (w := w) hh s₁.heap.objs.size ax (Nat.ne_of_lt hlt) us.toArray
  exact ⟨{ sub := W.sub, frame := W.frame, done := fun s Q E st => W.done s Q E (by simpa using st), self := W.self, item := fun i s Q E hi st hQ => W.item i s Q E (by simpa using hi) st fun v h' tk hP => hQ v h' tk (by simpa using hP) },
    fun i h st => by obtain ⟨o, e, _⟩ := st.1; exact ⟨o, e⟩,
    fun i h h' o nw st e e' kk N' hS => LCg.list_st (h₀ := h₀) (L := L) i h h' o nw st e e' kk N' (.inr ⟨_, hS, rfl, k, rfl⟩), ⟨⟨_, Heap.get?_push_size _ rfl, rfl, rfl⟩, hl.push _⟩,
    fun b hb => by
      show b < (s₁.heap.push _).objs.size
      rw [Heap.size_push]
      rcases List.mem_cons.mp hb with rfl | hb
      · exact Nat.lt_succ_self _
      · rw [List.mem_singleton.mp hb]; exact Nat.lt_succ_of_lt hlt,
    fun _ _ e => Heap.get?_push_of_some _ e, Nat.ne_of_lt F.ns.lt, next_is_new F, fun p hp => Nat.ne_of_lt (lt p hp), lt⟩
abbrev tests (ifs : List Expr) (env : Env) : Sem Bool := forIn ifs true fun c r => if r = true then do let ok ← isTrue c env (eval c env); pure (ForInStep.yield ok) else pure (ForInStep.yield r)
/-- one turn of a comprehension -/
def CTurn (prog : Program) (w : World) (A : Around) (h₀ : Heap) (L : Addr) (m : Str → Option Value) (env : Env) (ifs : List Expr) (elt : Expr) (x : Str) (scope : Scope) (cl : List (Str × Addr)) (s : Shared) (n : Nat) (P : Nat → Value → Prop) (S : List (Addr × Obj) → Prop) (news₀ : List (Addr × Obj)) (J : Nat → List Value → List (Addr × Obj) → Array GenState → Prop) : Prop :=
  ∀ i ys news v I oI C oC D m₂ h tk g (E' : Value → Shared → Prop), i < n → ys.length ≤ i → J i ys news g → S news → P i v → NsObj oC m₂ → m₂ x = some v → Fr h₀ L h m → News h₀ L h ((I, oI) :: (C, oC) :: (D, lst ys) :: news) → Off I C D news → (I ≠ C ∧ I ≠ D ∧ C ≠ D) → (∀ p ∈ news₀, p.1 < I ∧ p.1 < C ∧ p.1 < D) →
    wpAny (model prog w) A (tests ifs (compEnvC scope cl C env)) (fun ok s' => if ok = true then
      wpAny (model prog w) A (eval elt (compEnvC scope cl C env)) (CEnd h₀ L m { s with heap := h, toks := tk, gens := g } I oI C oC D (lst ys) S (fun y news' g' => J (i + 1) (ys ++ [y]) news' g')) E' s'
      else CEnd h₀ L m { s with heap := h, toks := tk, gens := g } I oI C oC D (lst ys) S (fun _ news' g' => J (i + 1) ys news' g') Value.none s') E' { s with heap := h, toks := tk, gens := g }
/-- where a comprehension's loop stands -/
inductive CBI (h₀ : Heap) (L : Addr) (m : Str → Option Value) (I C D : Addr) (n : Nat) (St : Nat → Heap → Prop) (S : List (Addr × Obj) → Prop) (J : Nat → List Value → List (Addr × Obj) → Array GenState → Prop) (s₂ : Shared) : Nat → Shared → Prop
  | mk (h' : Heap) (tk : Nat) (g : Array GenState) (i : Nat) (ys : List Value) (m' : Str → Option Value) (news' : List (Addr × Obj)) (hi : i ≤ n) (hyl : ys.length ≤ i) (hst : St i h') (F : Fr h₀ L h' m) (hn : h'.Ns C m') (N : News h₀ L h' ((D, lst ys) :: news')) (off : Off I C D news') (hS : S news') (hJ : J i ys news' g) :
    CBI h₀ L m I C D n St S J s₂ (n + 1 - i) { s₂ with heap := h', toks := tk, gens := g }
/-- the addresses of a comprehension's parts -/
structure CAd (h₀ : Heap) (L I C D : Addr) (fp : List Addr) : Prop where
  CI : I ≠ C
  DI : I ≠ D
  CD : C ≠ D
  CL : C ≠ L
  DL : D ≠ L
  C0 : h₀.get? C = none
  D0 : h₀.get? D = none
  Df : D ∉ fp
  Cf : C ∉ fp
theorem c_loop {ifs : List Expr} {elt iter : Expr} {x : Str} {px : Pos} {scope : Scope} {cl : List (Str × Addr)} {pos : Pos} {s₁ s₂ : Shared} {I C D : Addr} {fp : List Addr} {n : Nat} {P : Nat → Value → Prop} {St : Nat → Heap → Prop} {S : List (Addr × Obj) → Prop} {news : List (Addr × Obj)}
    {RR : Value → Addr → Result → Shared → Prop} (K : SrcFacts prog w A h₀ L n P S news s₁ I s₂.heap fp St) (hsz : n ≤ sizeLine) (hkind : scope.kind = .function) (hx : scope.names.lookup x = some .local)
    (J : Nat → List Value → List (Addr × Obj) → Array GenState → Prop) (step : CTurn prog w A h₀ L m env ifs elt x scope cl s₂ n P S news J)
    (hRR : ∀ D C h tk g m' ys news', Fr h₀ L h m → News h₀ L h ((D, lst ys) :: news') → (∀ p ∈ news', p.1 ≠ D) → h.Ns C m' → h₀.get? C = none → h₀.get? D = none → C ≠ L → D ≠ L → C ≠ D → (∀ p ∈ news', p.1 ≠ C) → (∀ p ∈ news, p.1 < D) → J n ys news' g → S news' → RR (.ref D) C (.ok .next) { s₂ with heap := h, toks := tk, gens := g })
    (ad : CAd h₀ L I C D fp) (lts : ∀ p ∈ news, p.1 < I ∧ p.1 < C ∧ p.1 < D) {k : Nat} {s₃ : Shared} (h : CBI h₀ L m I C D n St S J s₂ k s₃) :
    codeAny (model prog w) A (.compLoop (.ListComp elt [⟨.Name x px, iter, ifs, 0⟩] scope pos) 0 (.ref I) (.ref D) (compEnvC scope cl C env)) (RR (.ref D) C) s₃ := by
  refine codeAny_compLoop_tests (CBI h₀ L m I C D n St S J s₂) ?_ k h
  rintro k s' ⟨h', tk, g, i, ys, m', news', hi, hyl, hst', F', hn', N', off', hS', hJ⟩
  have nD : ∀ p ∈ (D, lst ys) :: news', p.1 ≠ I := List.forall_mem_cons.mpr ⟨Ne.symm ad.DI, fun p hp => (off' p hp).1⟩
  by_cases hlt : i < n
  · refine K.W.item i _ _ _ hlt hst' fun v h₂ tk₂ hPv hst₂ hk₂ => ?_
    refine wpAny_assign_Name (wpAny_storeName_local (lookup_relabel_local hx) (hn'.at' fun o e => hk₂ _ o (by simpa using Ne.symm ad.CI) e) (fun h₃ hn₃ hs₃ => ?_) (by simp [compEnvC, relabel, hkind]))
    have hst₃ : St (i + 1) h₃ := K.W.frame _ _ _ hst₂ fun b hb o e => hs₃.extBut b o (fun q => ad.Cf (by have q' : b = C := q; rw [← q']; exact hb)) e
    obtain ⟨oI, heI⟩ := K.io _ _ hst₃
    obtain ⟨oC, heC, hoC⟩ := LCg.ns_obj hn₃
    have F₃ : Fr h₀ L h₃ m := (fr_but F' hk₂ K.li K.base).change hs₃ ad.CL ad.C0
    have N₂ : News h₀ L h₂ ((D, lst ys) :: news') := news_but N' hk₂ nD
    have nC : ∀ p ∈ (D, lst ys) :: news', p.1 ≠ C := List.forall_mem_cons.mpr ⟨Ne.symm ad.CD, fun p hp => (off' p hp).2.1⟩
    have N₃ : News h₀ L h₃ ((I, oI) :: (C, oC) :: (D, lst ys) :: news') := fun p hp => by
      rcases List.mem_cons.mp hp with rfl | hp
      · exact ⟨heI, Ne.symm K.li, K.base⟩
      · rcases List.mem_cons.mp hp with rfl | hp
        · exact ⟨heC, ad.CL, ad.C0⟩
        · exact ⟨hs₃.extBut _ _ (nC p hp) (N₂ p hp).1, (N₂ p hp).2⟩
    refine wpAny_mono (step i ys news' v I oI C oC D _ h₃ _ g _ hlt hyl hJ hS' hPv hoC (by simp) F₃ N₃ off' ⟨ad.CI, ad.DI, ad.CD⟩ lts) (fun ok s₄ h₄ => ?_) fun _ _ e => e
    cases ok with
    | true =>
      simp only [if_true] at h₄ ⊢
      refine wpAny_mono h₄ (fun y s₅ h₅ => ?_) fun _ _ e => e
      obtain ⟨h₄, tk₄, g₄, news₄, rfl, F₄, N₄, off₄, hS₄, R₄⟩ := h₅
      have zI := (N₄ (I, oI) List.mem_cons_self).1
      have zC := (N₄ (C, oC) (List.mem_cons_of_mem _ List.mem_cons_self)).1
      have zD := (N₄ (D, lst ys) (List.mem_cons_of_mem _ (List.mem_cons_of_mem _ List.mem_cons_self))).1
      have N₄' : News h₀ L h₄ news₄ := fun p hp => N₄ p (List.mem_cons_of_mem _ (List.mem_cons_of_mem _ (List.mem_cons_of_mem _ hp)))
      have hst₄ : St (i + 1) h₄ := K.st _ _ _ _ _ hst₃ heI zI F₄.keep N₄' hS₄
      refine append_at (hsz := by show ys.toArray.size ≤ sizeLine; rw [List.size_toArray]; exact Nat.le_trans (Nat.le_trans hyl hi) hsz) zD fun h₅ hs₅ hD₅ => ?_
      refine ⟨n + 1 - (i + 1), Nat.sub_lt_sub_left (Nat.lt_succ_of_lt hlt) (Nat.lt_succ_self i), .mk h₅ tk₄ g₄ (i + 1) (ys ++ [y]) _ news₄ hlt (by rw [List.length_append, List.length_singleton]; exact Nat.succ_le_succ hyl) (K.W.frame _ _ _ hst₄ fun b hb o e => hs₅.extBut b o (fun q => ad.Df (q ▸ hb)) e) (F₄.change hs₅ ad.DL ad.D0)
        ((hoC.ns zC).sameBut hs₅ ad.CD) (fun p hp => ?_) off₄ hS₄ R₄⟩
      rcases List.mem_cons.mp hp with rfl | hp
      · exact ⟨hD₅.trans (congrArg some (LCg.lst_snoc ys y)), ad.DL, ad.D0⟩
      · exact ⟨hs₅.extBut _ _ (off₄ p hp).2.2 (N₄' p hp).1, (N₄' p hp).2⟩
    | false =>
      simp only [Bool.false_eq_true, if_false] at h₄ ⊢
      obtain ⟨h₅, tk₄, g₄, news₄, rfl, F₄, N₄, off₄, hS₄, R₄⟩ := h₄
      have zI := (N₄ (I, oI) List.mem_cons_self).1
      have zC := (N₄ (C, oC) (List.mem_cons_of_mem _ List.mem_cons_self)).1
      have N₅ : News h₀ L h₅ ((D, lst ys) :: news₄) := fun p hp => N₄ p (List.mem_cons_of_mem _ (List.mem_cons_of_mem _ hp))
      have hst₄ : St (i + 1) h₅ := K.st _ _ _ _ _ hst₃ heI zI F₄.keep (fun p hp => N₅ p (List.mem_cons_of_mem _ hp)) hS₄
      exact ⟨n + 1 - (i + 1), Nat.sub_lt_sub_left (Nat.lt_succ_of_lt hlt) (Nat.lt_succ_self i), .mk h₅ tk₄ g₄ (i + 1) ys _ news₄ hlt (Nat.le_succ_of_le hyl) hst₄ F₄ (hoC.ns zC) N₅ off₄ hS₄ R₄⟩
  · obtain rfl : i = n := Nat.le_antisymm hi (Nat.not_lt.mp hlt)
    refine K.W.done _ _ _ hst' fun h₂ tk₂ hk₂ => ?_
    exact hRR _ _ h₂ tk₂ g _ ys news' (fr_but F' hk₂ K.li K.base) (news_but N' hk₂ nD) (fun p hp => (off' p hp).2.2) (hn'.at' fun o e => hk₂ _ o (by simpa using Ne.symm ad.CI) e) ad.C0 ad.D0 ad.CL ad.DL ad.CD (fun p hp => (off' p hp).2.1) (fun p hp => (lts p hp).2.2) hJ hS'
theorem c_block {ifs : List Expr} {elt iter : Expr} {x : Str} {px : Pos} {scope : Scope} {cl : List (Str × Addr)} {pos : Pos} {s₁ s₂ : Shared} {I : Addr} {fp : List Addr} {n : Nat} {P : Nat → Value → Prop} {St : Nat → Heap → Prop} {S : List (Addr × Obj) → Prop} {news : List (Addr × Obj)}
    {RR : Value → Addr → Result → Shared → Prop} (K : SrcFacts prog w A h₀ L n P S news s₁ I s₂.heap fp St) (hsz : n ≤ sizeLine)
    (hcell : ∀ y ∈ scope.names, y.2 ≠ .cell) (hkind : scope.kind = .function) (hx : scope.names.lookup x = some .local)
    (F : Fr h₀ L s₂.heap m) (N : News h₀ L s₂.heap news) (hS : S news) (J : Nat → List Value → List (Addr × Obj) → Array GenState → Prop) (h0 : J 0 [] news s₂.gens)
    (step : CTurn prog w A h₀ L m env ifs elt x scope cl s₂ n P S news J)
    (hRR : ∀ D C h tk g m' ys news', Fr h₀ L h m → News h₀ L h ((D, lst ys) :: news') → (∀ p ∈ news', p.1 ≠ D) → h.Ns C m' → h₀.get? C = none → h₀.get? D = none → C ≠ L → D ≠ L → C ≠ D → (∀ p ∈ news', p.1 ≠ C) → (∀ p ∈ news, p.1 < D) → J n ys news' g → S news' → RR (.ref D) C (.ok .next) { s₂ with heap := h, toks := tk, gens := g }) :
    wpAny (model prog w) A (newList []) (fun acc s₃ => wpAny (model prog w) A (newFunctionEnv scope env.globals cl [] env.qual none .none (some env)) (fun cenv s₄ =>
      codeAny (model prog w) A (.compStart (.ListComp elt [⟨.Name x px, iter, ifs, 0⟩] scope pos) 0 (.ref I) acc { cenv with scope := relabel scope env }) (RR acc cenv.locals) s₄) E s₃) E s₂ := by
  have lt₀ : ∀ p ∈ news, p.1 < s₂.heap.objs.size := fun p hp => Heap.lt_size (N p hp).1
  refine wpAny_newObj_type (wpAny_newFunctionEnv hcell (by intro y hy; simp at hy) (fun h₁ hns₁ hsb₁ => ?_) hkind)
  dsimp only at hns₁ hsb₁ ⊢
  generalize hH2 : s₂.heap.push { cls := .type "list", dict := none, data := .seq ([] : List Value).toArray } = H2 at hns₁ hsb₁ ⊢
  generalize hDe : s₂.heap.objs.size = D
  have hCe : H2.objs.size = D + 1 := by rw [← hH2, Heap.size_push, hDe]
  generalize hC : H2.objs.size = C at hns₁ hsb₁ hCe ⊢
  have hCD : C ≠ D := by rw [hCe]; exact Nat.succ_ne_self _
  have below : ∀ b, b < D → b ≠ C ∧ b ≠ D := fun b hb => ⟨by rw [hCe]; exact Nat.ne_of_lt (Nat.lt_succ_of_lt hb), Nat.ne_of_lt hb⟩
  have fpD : ∀ b ∈ fp, b < D := fun b hb => hDe ▸ K.fplt b hb
  have hDf : D ∉ fp := fun hm => Nat.lt_irrefl _ (fpD _ hm)
  have hCf : C ∉ fp := fun hm => by have := fpD _ hm; rw [hCe] at this; exact Nat.lt_irrefl _ (Nat.lt_of_succ_lt this)
  have hIlt : I < D := fpD I (K.W.sub I (List.mem_singleton.mpr rfl))
  have sizes : ∀ b o, s₂.heap.get? b = some o → b < D := fun b o e => hDe ▸ Heap.lt_size e
  have old : ∀ b o, s₂.heap.get? b = some o → h₁.get? b = some o := fun b o e => hsb₁.extBut b o (below b (sizes b o e)).1 (Heap.get?_push_of_some _ (hH2 ▸ Heap.get?_push_of_some _ e))
  have hacc : h₁.get? D = some (lst []) := hsb₁.extBut _ _ (Ne.symm hCD) (Heap.get?_push_of_some _ (hH2 ▸ hDe ▸ Heap.get?_push_size _ rfl))
  have hst₁ : St 0 h₁ := K.W.frame _ _ _ K.st0 fun b _ o e => old b o e
  have fresh₀ : ∀ a, D ≤ a → h₀.get? a = none := fun a ha => by
    cases e : h₀.get? a with
    | none => rfl
    | some o' => exact absurd (sizes _ _ (F.keep a o' e)) (Nat.not_lt.mpr ha)
  have hD₀ : h₀.get? D = none := fresh₀ _ (Nat.le_refl _)
  have hC₀ : h₀.get? C = none := fresh₀ _ (by rw [hCe]; exact Nat.le_succ _)
  have hLlt : L < D := hDe ▸ F.ns.lt
  have hDL : D ≠ L := Ne.symm (below L hLlt).2
  have hCL : C ≠ L := Ne.symm (below L hLlt).1
  have hCI : I ≠ C := (below I hIlt).1
  have hDI : I ≠ D := (below I hIlt).2
  have ltD : ∀ p ∈ news, p.1 < D := fun p hp => hDe ▸ lt₀ p hp
  have lts : ∀ p ∈ news, p.1 < I ∧ p.1 < C ∧ p.1 < D := fun p hp => ⟨K.old p hp, by rw [hCe]; exact Nat.lt_succ_of_lt (ltD p hp), ltD p hp⟩
  have off₀ : Off I C D news := fun p hp => ⟨Nat.ne_of_lt (lts p hp).1, Nat.ne_of_lt (lts p hp).2.1, Nat.ne_of_lt (lts p hp).2.2⟩
  have loop := c_loop (elt := elt) (iter := iter) (px := px) (cl := cl) (pos := pos) (env := env) (RR := RR) K hsz hkind hx J step hRR ⟨hCI, hDI, hCD, hCL, hDL, hC₀, hD₀, hDf, hCf⟩ lts (.mk h₁ (s₂.toks + ([] : List (Str × Value)).length) s₂.gens 0 [] _ news (Nat.zero_le _) (Nat.le_refl _) hst₁ (F.keeps old) hns₁ (fun p hp => by
    rcases List.mem_cons.mp hp with rfl | hp
    · exact ⟨hacc, hDL, hD₀⟩
    · exact ⟨old _ _ (N p hp).1, (N p hp).2⟩) off₀ hS h0)
  exact codeAny_compStart_list loop (K.W.self 0 _ _ _ hst₁ loop)
/-- what the rule wants once the iterable stands -/
def CSrc (prog : Program) (w : World) (A : Around) (h₀ : Heap) (L : Addr) (m : Str → Option Value) (env : Env) (ifs : List Expr) (elt : Expr) (x : Str) (scope : Scope) (cl : List (Str × Addr)) (m₂ : Addr → Str → Option Value) (Q : Addr → Shared → Prop) (xv : Value) (s₁ : Shared) : Prop :=
  ∃ n P S news J, Fr h₀ L s₁.heap m ∧ News h₀ L s₁.heap news ∧ n ≤ sizeLine ∧ SrcOk prog w A h₀ L xv s₁ n P S news ∧ S news ∧ J 0 [] news s₁.gens ∧ CTurn prog w A h₀ L m env ifs elt x scope cl s₁ n P S news J ∧
    ∀ D h tk g ys news', Fr h₀ L h (m₂ D) → News h₀ L h ((D, lst ys) :: news') → (∀ p ∈ news', p.1 ≠ D) → (∀ p ∈ news, p.1 < D) → J n ys news' g → S news' → Q D { s₁ with heap := h, toks := tk, gens := g }
theorem comp_eval {ifs : List Expr} {elt iter : Expr} {x : Str} {px : Pos} {scope : Scope} {cl : List (Str × Addr)} {pos : Pos} {Q : Value → Shared → Prop} (_ : Fr h₀ L s.heap m)
    (hclos : closureFor scope env = pure cl) (hcell : ∀ y ∈ scope.names, y.2 ≠ .cell) (hkind : scope.kind = .function)
    (hnames : ∀ y ∈ scope.names, y.2 = .local → scope.names.lookup y.1 = some .local) (hx : scope.names.lookup x = some .local)
    (h : wpAny (model prog w) A (eval iter env) (CSrc prog w A h₀ L m env ifs elt x scope cl (fun _ => m) (fun D => Q (.ref D))) E s)
    (hs : ∀ x, foldedSetIterable iter env x = pure x := by intro _; rfl) :
    wpAny (model prog w) A (eval (.ListComp elt [⟨.Name x px, iter, ifs, 0⟩] scope pos) env) Q E s := by
  rw [eval_ListComp]
  refine wpAny_comprehension_free (use := none) rfl hs hclos hkind hnames (wpAny_mono h (fun xv s₁ h₁ => ?_) fun _ _ e => e)
  obtain ⟨n, P, S, news, J, F, N, hsz, hsrc, hS, h0, step, fin⟩ := h₁
  refine hsrc _ _ fun I h₂ fp St K => ?_
  refine c_block (s₂ := { s₁ with heap := h₂ }) K hsz hcell hkind hx (F.keeps K.up) (N.grown K.up) hS J h0 step fun D C h tk g m' ys news' F' N' o1 hn hC₀ hD₀ hCL hDL hCD offC lt j hS' => ?_
  refine ⟨m', hn, fun h'' hs'' => fin D h'' tk g ys news' (F'.change hs'' hCL hC₀) (fun p hp => ?_) o1 lt j hS'⟩
  refine ⟨hs''.extBut _ _ ?_ (N' p hp).1, (N' p hp).2⟩
  rcases List.mem_cons.mp hp with rfl | hp
  · exact Ne.symm hCD
  · exact offC p hp
theorem comp_assign {ifs : List Expr} {elt iter : Expr} {x y : Str} {px py : Pos} {scope : Scope} {cl : List (Str × Addr)} {pos spos : Pos} {Q : Flow → Shared → Prop} (_ : Fr h₀ L s.heap m) (hLe : env.locals = L)
    (hsw : swapsWith (.ListComp elt [⟨.Name x px, iter, ifs, 0⟩] scope pos) (some (.Name y py)) spos.line env = pure true)
    (hclos : closureFor scope env = pure cl) (hcell : ∀ z ∈ scope.names, z.2 ≠ .cell) (hkind : scope.kind = .function)
    (hnames : ∀ z ∈ scope.names, z.2 = .local → scope.names.lookup z.1 = some .local) (hx : scope.names.lookup x = some .local)
    (hy : env.kindOf y = some .local) (hp : (env.scope.kind == .class || (env.scope.kind == .module && env.locals != env.globals)) = false)
    (h : wpAny (model prog w) A (eval iter env) (CSrc prog w A h₀ L m env ifs elt x scope cl (fun D z => if z = y then some (.ref D) else m z) (fun _ => Q .next)) E s)
    (hs : ∀ x, foldedSetIterable iter env x = pure x := by intro _; rfl) :
    wpAny (model prog w) A (exec (.Assign [.Name y py] (.ListComp elt [⟨.Name x px, iter, ifs, 0⟩] scope pos) spos) env) Q E s := by
  subst hLe
  rw [exec_Assign_Name_used _ _ _ _ hsw]
  refine wpAny_bind (wpAny_standAt (wpAny_bind ?_))
  show wpAny _ A (do let _ ← comprehension (.ListComp elt [⟨.Name x px, iter, ifs, 0⟩] scope pos) scope env _ (newList []) false (eval iter env) (some (assign (.Name y py) env))) _ _ s
  refine wpAny_bind (wpAny_mono (wpAny_comprehension_free (use := some (assign (.Name y py) env)) (Q := fun _ s' => Q .next s') rfl hs hclos hkind hnames
    (wpAny_mono h (fun xv s₁ h₁ => ?_) fun _ _ e => e)) (fun _ s' hq => wpAny_pure (wpAny_pure hq)) fun _ _ e => e)
  obtain ⟨n, P, S, news, J, F, N, hsz, hsrc, hS, h0, step, fin⟩ := h₁
  refine hsrc _ _ fun I h₂ fp St K => ?_
  refine c_block (s₂ := { s₁ with heap := h₂ }) K hsz hcell hkind hx (F.keeps K.up) (N.grown K.up) hS J h0 step fun D C h tk g m' ys news' F' N' o1 hn hC₀ hD₀ hCL hDL hCD offC lt j hS' => ?_
  show wpAny _ A (assign (.Name y py) env (.ref D)) _ _ _
  refine wpAny_assign_Name (wpAny_storeName_local hy F'.ns (fun h₂ hn₂ hs₂ => ?_) hp)
  have hL₀ : h₀.get? env.locals = none := Heap.get?_none_of_le F'.above
  have F₂ : Fr h₀ env.locals h₂ (fun z => if z = y then some (.ref D) else m z) := ⟨hn₂, fun b o e => hs₂.extBut b o (fun q => by rw [q, hL₀] at e; cases e) (F'.keep b o e), F'.above⟩
  refine ⟨m', hn.sameBut hs₂ hCL, fun h'' hs'' => fin D h'' _ g ys news' (F₂.change hs'' hCL hC₀) (fun p hp => ?_) o1 lt j hS'⟩
  have z : h₂.get? p.1 = some p.2 := hs₂.extBut _ _ (N' p hp).2.1 (N' p hp).1
  refine ⟨hs''.extBut _ _ ?_ z, (N' p hp).2⟩
  rcases List.mem_cons.mp hp with rfl | hp
  · exact Ne.symm hCD
  · exact offC p hp
/-- a turn without a test -/
theorem CTurn.plain {elt : Expr} {x : Str} {scope : Scope} {cl : List (Str × Addr)} {n : Nat} {P : Nat → Value → Prop} {S : List (Addr × Obj) → Prop} {news₀ : List (Addr × Obj)} {J : Nat → List Value → List (Addr × Obj) → Array GenState → Prop}
    (h : ∀ i ys news v I oI C oC D m₂ h tk g (E' : Value → Shared → Prop), i < n → ys.length ≤ i → J i ys news g → S news → P i v → NsObj oC m₂ → m₂ x = some v → Fr h₀ L h m → News h₀ L h ((I, oI) :: (C, oC) :: (D, lst ys) :: news) → Off I C D news → (I ≠ C ∧ I ≠ D ∧ C ≠ D) → (∀ p ∈ news₀, p.1 < I ∧ p.1 < C ∧ p.1 < D) →
      wpAny (model prog w) A (eval elt (compEnvC scope cl C env)) (CEnd h₀ L m { s with heap := h, toks := tk, gens := g } I oI C oC D (lst ys) S (fun y news' g' => J (i + 1) (ys ++ [y]) news' g')) E' { s with heap := h, toks := tk, gens := g }) :
    CTurn prog w A h₀ L m env [] elt x scope cl s n P S news₀ J := fun i ys news v I oI C oC D m₂ hp tk g E' a1 a2 a3 a4 a5 a6 a7 a8 a9 b1 b2 b3 => by
  refine wpAny_tests_nil ?_
  simp only [if_true]
  exact h i ys news v I oI C oC D m₂ hp tk g E' a1 a2 a3 a4 a5 a6 a7 a8 a9 b1 b2 b3
/-- a turn with one test -/
theorem CTurn.test {ct elt : Expr} {x : Str} {scope : Scope} {cl : List (Str × Addr)} {n : Nat} {P : Nat → Value → Prop} {S : List (Addr × Obj) → Prop} {news₀ : List (Addr × Obj)} {J : Nat → List Value → List (Addr × Obj) → Array GenState → Prop}
    (h : ∀ i ys news v I oI C oC D m₂ h tk g (E' : Value → Shared → Prop), i < n → ys.length ≤ i → J i ys news g → S news → P i v → NsObj oC m₂ → m₂ x = some v → Fr h₀ L h m → News h₀ L h ((I, oI) :: (C, oC) :: (D, lst ys) :: news) → Off I C D news → (I ≠ C ∧ I ≠ D ∧ C ≠ D) → (∀ p ∈ news₀, p.1 < I ∧ p.1 < C ∧ p.1 < D) →
      wpAny (model prog w) A (isTrue ct (compEnvC scope cl C env) (eval ct (compEnvC scope cl C env))) (fun ok s' => if ok = true then
        wpAny (model prog w) A (eval elt (compEnvC scope cl C env)) (CEnd h₀ L m { s with heap := h, toks := tk, gens := g } I oI C oC D (lst ys) S (fun y news' g' => J (i + 1) (ys ++ [y]) news' g')) E' s'
        else CEnd h₀ L m { s with heap := h, toks := tk, gens := g } I oI C oC D (lst ys) S (fun _ news' g' => J (i + 1) ys news' g') Value.none s') E' { s with heap := h, toks := tk, gens := g }) :
    CTurn prog w A h₀ L m env [ct] elt x scope cl s n P S news₀ J := fun i ys news v I oI C oC D m₂ hp tk g E' a1 a2 a3 a4 a5 a6 a7 a8 a9 b1 b2 b3 =>
  wpAny_tests_one (h i ys news v I oI C oC D m₂ hp tk g E' a1 a2 a3 a4 a5 a6 a7 a8 a9 b1 b2 b3)
end
end Mine

-- Led
theorem Mine.gap_Led : True ∧ True := by w_top off; walk1 <;> trivial
namespace Mine
open PySem PySem.W PySem.Calls PyProof.Rows
/-- one accumulator: its address, its dict's, the dict, its pieces, its count -/
structure Rw where
  x : Addr
  dx : Addr
  od : Obj
  prs : List Pr
  n : Nat
def Rw.led (r : Rw) : List (Addr × Obj) := (r.x, accObj r.dx (prIts r.prs) r.n) :: (r.dx, r.od) :: r.prs.map (fun q => (q.1, prTup q))
def rowsLed (rs : List Rw) : List (Addr × Obj) := rs.flatMap Rw.led
def Rw.cont (r : Rw) : List (Str × Str) := r.prs.map (fun q => (q.2.1, q.2.2.2.1))
def Rw.push (r : Rw) (q : Pr) : Rw := { r with prs := r.prs ++ [q], n := r.n + 1 }
theorem Rw.cont_push (r : Rw) (q : Pr) : (r.push q).cont = r.cont ++ [(q.2.1, q.2.2.2.1)] := by simp [Rw.cont, Rw.push]
theorem mem_rowsLed {rs : List Rw} {p : Addr × Obj} : p ∈ rowsLed rs ↔ ∃ r ∈ rs, p ∈ r.led := by unfold rowsLed; simp [List.mem_flatMap]
theorem od_ne {w : World} {od : Obj} (h : OD w od) {dx : Addr} {its : Array Value} {n : Nat} : od ≠ accObj dx its n := by
  rintro rfl
  have := h.1
  simp [lookIn] at this
/-- a row of the ledger is as it is told -/
structure RowsOk (w : World) (rs : List Rw) : Prop where
  nod : (rs.map (·.x)).Nodup
  od : ∀ r ∈ rs, OD w r.od
theorem RowsOk.ne {w : World} {rs : List Rw} (K : RowsOk w rs) {h₀ h : Heap} {L : Addr} (N : News h₀ L h (rowsLed rs)) {i : Nat} {r : Rw} (hi : rs[i]? = some r) {j : Nat} {r' : Rw} (hj : rs[j]? = some r') (hij : j ≠ i) : ∀ p ∈ r'.led, p.1 ≠ r.x := by
  have hr : (r.x, accObj r.dx (prIts r.prs) r.n) ∈ rowsLed rs := mem_rowsLed.mpr ⟨r, List.mem_of_getElem? hi, List.mem_cons_self⟩
  have hx := (N _ hr).1
  intro p hp e
  have hpl : p ∈ rowsLed rs := mem_rowsLed.mpr ⟨r', List.mem_of_getElem? hj, hp⟩
  rcases List.mem_cons.mp hp with rfl | hp
  · have h1 : (rs.map (·.x))[j]? = some r.x := by rw [List.getElem?_map, hj]; exact congrArg some e
    have h2 : (rs.map (·.x))[i]? = some r.x := by rw [List.getElem?_map, hi]; rfl
    obtain ⟨a1, b1⟩ := List.getElem?_eq_some_iff.mp h1
    obtain ⟨a2, b2⟩ := List.getElem?_eq_some_iff.mp h2
    exact hij ((List.getElem_inj K.nod).mp (b1.trans b2.symm))
  · rcases List.mem_cons.mp hp with rfl | hp
    · have z := (N _ hpl).1
      rw [show ((r'.dx, r'.od) : Addr × Obj).1 = r.x from e] at z
      rw [hx] at z
      exact od_ne (K.od r' (List.mem_of_getElem? hj)) (Option.some.inj z).symm
    · obtain ⟨q, hq, rfl⟩ := List.mem_map.mp hp
      have z := (N _ hpl).1
      rw [show ((q.1, prTup q) : Addr × Obj).1 = r.x from e] at z
      rw [hx] at z
      have := congrArg Obj.cls (Option.some.inj z)
      exact absurd this (by simp)
theorem RowsOk.own {w : World} {rs : List Rw} (K : RowsOk w rs) {h₀ h : Heap} {L : Addr} (N : News h₀ L h (rowsLed rs)) {i : Nat} {r : Rw} (hi : rs[i]? = some r) : ∀ p ∈ (r.dx, r.od) :: r.prs.map (fun q => (q.1, prTup q)), p.1 ≠ r.x := by
  have hrm := List.mem_of_getElem? hi
  have hx := (N _ (mem_rowsLed.mpr ⟨r, hrm, List.mem_cons_self⟩)).1
  intro p hp e
  have z := (N p (mem_rowsLed.mpr ⟨r, hrm, List.mem_cons_of_mem _ hp⟩)).1
  rw [e, hx] at z
  rcases List.mem_cons.mp hp with rfl | hp
  · exact od_ne (K.od r hrm) (Option.some.inj z).symm
  · obtain ⟨q, hq, rfl⟩ := List.mem_map.mp hp
    exact absurd (congrArg Obj.cls (Option.some.inj z)) (by simp)
/-- what is left when one row's object is set aside -/
def others (x : Addr) (all : List (Addr × Obj)) : List (Addr × Obj) := all.filter (fun p => decide (p.1 ≠ x))
theorem mem_others {x : Addr} {all : List (Addr × Obj)} {p : Addr × Obj} : p ∈ others x all ↔ p ∈ all ∧ p.1 ≠ x := by unfold others; simp
/-- the ledger after a push -/
theorem push_led {w : World} {rs : List Rw} (K : RowsOk w rs) {h₀ h : Heap} {L : Addr} {base : List (Addr × Obj)} (N : News h₀ L h (rowsLed rs ++ base)) {i : Nat} {r : Rw} (hi : rs[i]? = some r) (hb : ∀ p ∈ base, p.1 ≠ r.x) (q : Pr) :
    ∀ p ∈ rowsLed (rs.set i (r.push q)) ++ base, p ∈ (r.x, accObj r.dx ((prIts r.prs).push (.ref q.1)) (r.n + 1)) :: (q.1, prTup q) :: (r.dx, r.od) :: others r.x (rowsLed rs ++ base) := by
  have N1 : News h₀ L h (rowsLed rs) := fun p hp => N p (List.mem_append_left _ hp)
  have e : prIts (r.push q).prs = (prIts r.prs).push (.ref q.1) := by unfold prIts Rw.push; simp
  have keep : ∀ p ∈ rowsLed rs ++ base, p.1 ≠ r.x → p ∈ (r.x, accObj r.dx ((prIts r.prs).push (.ref q.1)) (r.n + 1)) :: (q.1, prTup q) :: (r.dx, r.od) :: others r.x (rowsLed rs ++ base) := fun p hp hne =>
    List.mem_cons_of_mem _ (List.mem_cons_of_mem _ (List.mem_cons_of_mem _ (mem_others.mpr ⟨hp, hne⟩)))
  intro p hp
  rcases List.mem_append.mp hp with hp | hp
  · obtain ⟨r', hr', hp⟩ := mem_rowsLed.mp hp
    obtain ⟨j, hj⟩ := List.getElem?_of_mem hr'
    by_cases hij : j = i
    · subst hij
      rw [List.getElem?_set_self (List.getElem?_eq_some_iff.mp hi).1] at hj
      cases hj
      rcases List.mem_cons.mp hp with rfl | hp
      · rw [e]; exact List.mem_cons_self
      · rcases List.mem_cons.mp hp with rfl | hp
        · exact List.mem_cons_of_mem _ (List.mem_cons_of_mem _ List.mem_cons_self)
        · obtain ⟨q', hq', rfl⟩ := List.mem_map.mp hp
          rcases List.mem_append.mp hq' with hq' | hq'
          · have hm : (q'.1, prTup q') ∈ r.prs.map (fun q => (q.1, prTup q)) := List.mem_map.mpr ⟨q', hq', rfl⟩
            exact keep _ (List.mem_append_left _ (mem_rowsLed.mpr ⟨r, List.mem_of_getElem? hi, List.mem_cons_of_mem _ (List.mem_cons_of_mem _ hm)⟩)) (K.own N1 hi _ (List.mem_cons_of_mem _ hm))
          · rw [List.mem_singleton.mp hq']; exact List.mem_cons_of_mem _ List.mem_cons_self
    · rw [List.getElem?_set_ne (Ne.symm hij)] at hj
      exact keep p (List.mem_append_left _ (mem_rowsLed.mpr ⟨r', List.mem_of_getElem? hj, hp⟩)) (K.ne N1 hi hj hij p hp)
  · exact keep p (List.mem_append_right _ hp) (hb p hp)
theorem RowsOk.set {w : World} {rs : List Rw} (K : RowsOk w rs) {i : Nat} {r : Rw} (hi : rs[i]? = some r) (q : Pr) : RowsOk w (rs.set i (r.push q)) := by
  have e : (rs.set i (r.push q)).map (·.x) = rs.map (·.x) := by
    rw [List.map_set]
    refine List.ext_getElem? fun j => ?_
    by_cases hij : i = j
    · subst hij
      rw [List.getElem?_set_self (by rw [List.length_map]; exact (List.getElem?_eq_some_iff.mp hi).1), List.getElem?_map, hi]; rfl
    · rw [List.getElem?_set_ne hij]
  refine ⟨e ▸ K.nod, fun r' hr' => ?_⟩
  rcases List.mem_or_eq_of_mem_set hr' with h | rfl
  · exact K.od r' h
  · exact K.od r (List.mem_of_getElem? hi)
theorem set_x {rs : List Rw} {i : Nat} {r : Rw} (hi : rs[i]? = some r) (q : Pr) : (rs.set i (r.push q)).map (fun r => Value.ref r.x) = rs.map (fun r => Value.ref r.x) := by
  rw [List.map_set]
  refine List.ext_getElem? fun j => ?_
  by_cases hij : i = j
  · subst hij
    rw [List.getElem?_set_self (by rw [List.length_map]; exact (List.getElem?_eq_some_iff.mp hi).1), List.getElem?_map, hi]; rfl
  · rw [List.getElem?_set_ne hij]
end Mine

-- Tab
theorem Mine.gap_Tab : True ∧ True := by w_top off; walk1 <;> trivial
namespace Mine
open PySem PySem.W PySem.Calls PyProof.Rows
def ltr (j : Nat) : Str := ⟨#[97 + j]⟩
/-- what a tie puts into the rows -/
def addTo (c : List (List (Str × Str))) (k : Nat) (p : Str × Str) : List (List (Str × Str)) := c.modify k (· ++ [p])
def tstep (tie : Nat → Nat → Bool) (one : Nat) (c : List (List (Str × Str))) (other : Nat) : List (List (Str × Str)) :=
  if tie one other then addTo (addTo c one (Str.empty, ltr other)) other (ltr one, Str.empty) else c
def tin (tie : Nat → Nat → Bool) (one : Nat) (c : List (List (Str × Str))) (k : Nat) : List (List (Str × Str)) := (List.range k).foldl (tstep tie one) c
def tout (tie : Nat → Nat → Bool) (n i : Nat) : List (List (Str × Str)) := (List.range i).foldl (fun c j => tin tie (1 + j) c (1 + j)) (List.replicate n [])
theorem tin_s (tie : Nat → Nat → Bool) (one : Nat) (c : List (List (Str × Str))) (k : Nat) : tin tie one c (k + 1) = tstep tie one (tin tie one c k) k := by
  unfold tin; rw [List.range_succ, List.foldl_append]; rfl
theorem tout_s (tie : Nat → Nat → Bool) (n i : Nat) : tout tie n (i + 1) = tin tie (1 + i) (tout tie n i) (1 + i) := by
  unfold tout; rw [List.range_succ, List.foldl_append]; rfl
theorem cont_set {rs : List Rw} {c : List (List (Str × Str))} (h : rs.map Rw.cont = c) {i : Nat} {r : Rw} (hi : rs[i]? = some r) (q : Pr) : (rs.set i (r.push q)).map Rw.cont = addTo c i (q.2.1, q.2.2.2.1) := by
  subst h
  refine List.ext_getElem? fun j => ?_
  unfold addTo
  by_cases hij : i = j
  · subst hij
    rw [List.getElem?_map, List.getElem?_set_self (List.getElem?_eq_some_iff.mp hi).1, List.getElem?_modify_eq, List.getElem?_map, hi]
    simp [Rw.cont_push]
  · rw [List.getElem?_map, List.getElem?_set_ne hij, List.getElem?_modify_ne _ _ hij, List.getElem?_map]
theorem txt_charAt (bs : List Bool) (k : Nat) (hk : k < bs.length) : Txt.item (txt bs) (k : Int) = ⟨#[sgn (bs.getD k false)]⟩ := txt_item bs k hk
theorem sgn_x (b : Bool) : ((⟨#[sgn b]⟩ : Str) == Str.ofString "x") = b := by cases b <;> decide +kernel
/-- an item of a list at a place reckoned -/
theorem sub_item {prog : Program} {w : World} {A : Around} {E : Value → Shared → Prop} {s : Shared} {value slice : PySem.Expr} {l : Addr} {vs : List Value} {k : Int} {i : Nat} {u : Tok} {v : Value} {Q : Value → Shared → Prop}
    (hl : s.heap.IsList l vs.toArray) (hk : k = (i : Int)) (hi : i < 1000) (hx : vs[i]? = some v) (h : Q v s)
    (hs : subscripted slice false (.ref l) (.int k u) = operate [.ref l, .int k u] (getItem (.ref l) (.int k u)) := by with_unfolding_all rfl) :
    wpAny (model prog w) A (subscriptTail value slice (.ref l) (.int k u)) Q E s :=
  tail_any hl.typeIs slot_list_getitem.lookup (wpAny_getItem_list hl (by omega) (by omega) (by subst hk; simpa using hx) h) hs
theorem abc_item {k : Nat} (h : k < 5) : Txt.item (Str.ofString "abcde") (k : Int) = ltr k := by
  have : ∀ k : Fin 5, Txt.item (Str.ofString "abcde") (k.val : Int) = ltr k.val := by decide +kernel
  exact this ⟨k, h⟩
/-- a new row -/
theorem led_snoc {rs : List Rw} {x dx : Addr} {od : Obj} {k : Nat} {base : List (Addr × Obj)} : ∀ p ∈ rowsLed (rs ++ [⟨x, dx, od, [], k⟩]) ++ base, p = (x, accObj dx #[] k) ∨ p = (dx, od) ∨ p ∈ rowsLed rs ++ base := by
  intro p hp
  rcases List.mem_append.mp hp with hp | hp
  · obtain ⟨r, hr, hp⟩ := mem_rowsLed.mp hp
    rcases List.mem_append.mp hr with hr | hr
    · exact .inr (.inr (List.mem_append_left _ (mem_rowsLed.mpr ⟨r, hr, hp⟩)))
    · rw [List.mem_singleton] at hr; subst hr
      rcases List.mem_cons.mp hp with rfl | hp
      · exact .inl rfl
      · rcases List.mem_cons.mp hp with rfl | hp
        · exact .inr (.inl rfl)
        · cases hp
  · exact .inr (.inr (List.mem_append_right _ hp))
theorem RowsOk.snoc {w : World} {rs : List Rw} (K : RowsOk w rs) {x dx : Addr} {od : Obj} {k : Nat} (hod : OD w od) (hlt : ∀ r ∈ rs, r.x < x) : RowsOk w (rs ++ [⟨x, dx, od, [], k⟩]) := by
  refine ⟨?_, fun r hr => ?_⟩
  · rw [List.map_append, List.nodup_append]
    refine ⟨K.nod, by simp, fun a ha b hb => ?_⟩
    obtain ⟨r, hr, rfl⟩ := List.mem_map.mp ha
    have hb' : b = x := by simpa using hb
    rw [hb']; exact Nat.ne_of_lt (hlt r hr)
  · rcases List.mem_append.mp hr with hr | hr
    · exact K.od r hr
    · rw [List.mem_singleton.mp hr]; exact hod
theorem led_x {rs : List Rw} {r : Rw} (h : r ∈ rs) : (r.x, accObj r.dx (prIts r.prs) r.n) ∈ rowsLed rs := mem_rowsLed.mpr ⟨r, h, List.mem_cons_self⟩
theorem led_dx {rs : List Rw} {r : Rw} (h : r ∈ rs) : (r.dx, r.od) ∈ rowsLed rs := mem_rowsLed.mpr ⟨r, h, List.mem_cons_of_mem _ List.mem_cons_self⟩
theorem led_t {rs : List Rw} {r : Rw} (h : r ∈ rs) : ∀ q ∈ r.prs, (q.1, prTup q) ∈ rowsLed rs := fun q hq => mem_rowsLed.mpr ⟨r, h, List.mem_cons_of_mem _ (List.mem_cons_of_mem _ (List.mem_map.mpr ⟨q, hq, rfl⟩))⟩
theorem led_addr {rs : List Rw} {i : Nat} {r : Rw} (hi : rs[i]? = some r) {q : Pr} : ∀ p ∈ rowsLed (rs.set i (r.push q)), p.1 = q.1 ∨ ∃ p' ∈ rowsLed rs, p'.1 = p.1 := by
  intro p hp
  obtain ⟨r', hr', hp⟩ := mem_rowsLed.mp hp
  have hm := List.mem_of_getElem? hi
  rcases List.mem_or_eq_of_mem_set hr' with h | rfl
  · exact .inr ⟨p, mem_rowsLed.mpr ⟨r', h, hp⟩, rfl⟩
  · rcases List.mem_cons.mp hp with rfl | hp
    · exact .inr ⟨_, led_x hm, rfl⟩
    · rcases List.mem_cons.mp hp with rfl | hp
      · exact .inr ⟨_, led_dx hm, rfl⟩
      · obtain ⟨q', hq', rfl⟩ := List.mem_map.mp hp
        rcases List.mem_append.mp hq' with hq' | hq'
        · exact .inr ⟨_, led_t hm q' hq', rfl⟩
        · rw [List.mem_singleton.mp hq']; exact .inl rfl
theorem led_ne {rs : List Rw} {i : Nat} {r : Rw} (hi : rs[i]? = some r) {q : Pr} {I : Addr} (h : ∀ p ∈ rowsLed rs, p.1 ≠ I) (hq : q.1 ≠ I) : ∀ p ∈ rowsLed (rs.set i (r.push q)), p.1 ≠ I := fun p hp => by
  rcases led_addr hi p hp with e | ⟨p', hp', e⟩
  · rw [e]; exact hq
  · rw [← e]; exact h p' hp'
theorem set_all {rs : List Rw} {i : Nat} {r : Rw} (hi : rs[i]? = some r) {q : Pr} {P : Rw → Prop} (h : ∀ r ∈ rs, P r) (hp : P r → P (r.push q)) : ∀ r' ∈ rs.set i (r.push q), P r' := fun r' hr' => by
  rcases List.mem_or_eq_of_mem_set hr' with h' | rfl
  · exact h r' h'
  · exact hp (h r (List.mem_of_getElem? hi))
/-- a push onto one of the rows -/
theorem push_row (w : World) (p : Program) (loose : List Str) (mean : ExcName → Option Value) (mg mb : Str → Option Value) {dp un : Nat} {gd : Option (List Code)} {cn : Str} {cs : Scope} {a : Addr} {ccd : Value} {cl : List (Str × Addr)} {outer : List Env} {A₀ : Around} {base h₀ : Heap} {L : Addr} {m : Str → Option Value} {s : Shared} {Q E : Value → Shared → Prop}
    {rs : List Rw} {bs : List (Addr × Obj)} {i : Nat} {r : Rw} {u v : Str} {t t1 : Tok} (B : Below A₀ base outer h₀) (F : Fr h₀ L s.heap m) (X : (hd.heap_1 w.params).In h₀) (N : News h₀ L s.heap (rowsLed rs ++ bs)) (T : Top p loose mean mg mb h₀) (hbare : AllBare s.gens) (hk : cs.kind = .function) (hdp : dp + 2 < recursionLimit) (hun : un + 10 * 2 + 100 < cLine)
    (K : RowsOk w rs) (hi : rs[i]? = some r) (hsz : r.prs.length ≤ 1000) (hb : ∀ p ∈ bs, p.1 ≠ r.x)
    (hQ : ∀ h' tk' g' (q : Pr), AllBare g' → Fr h₀ L h' m → News h₀ L h' (rowsLed (rs.set i (r.push q)) ++ bs) → q.2.1 = u → q.2.2.2.1 = v → (∀ p ∈ rowsLed rs ++ bs, p.1 < q.1) → Q .none { s with heap := h', toks := tk', gens := g' }) :
    wpAny (model PySem.Challenge.rw_zd0009_01.row.prog w) (ktrTop dp un gd cn cs L a ccd cl outer) (call (.ref 53) [.ref r.x, .str u t, .str v t1]) Q E s := by
  have hm := List.mem_of_getElem? hi
  have N1 : News h₀ L s.heap (rowsLed rs) := fun p hp => N p (List.mem_append_left _ hp)
  refine push_spec w p loose mean mg mb r.x r.dx (prIts r.prs) r.n r.od u v t t1 (others r.x (rowsLed rs ++ bs)) (K.od r hm).1 (by simpa using hsz) ?_ _ _ _ _ _ _ _ _ _ _ _ _ _ _ _ _ _ B F X (sub_news N ?_) T hbare hk hdp hun ?_
  · intro q hq
    rcases List.mem_cons.mp hq with rfl | hq
    · exact K.own N1 hi _ List.mem_cons_self
    · exact (mem_others.mp hq).2
  · intro q hq
    rcases List.mem_cons.mp hq with rfl | hq
    · exact List.mem_append_left _ (led_x hm)
    · rcases List.mem_cons.mp hq with rfl | hq
      · exact List.mem_append_left _ (led_dx hm)
      · exact (mem_others.mp hq).1
  · rintro _ nw h' tk' g' hb' F' N' ⟨rfl, T, hT, rfl⟩
    refine hQ h' tk' g' (T, u, t, v, t1) hb' F' (sub_news N' (push_led K N hi hb (T, u, t, v, t1))) rfl rfl fun q hq => ?_
    by_cases e : q.1 = r.x
    · rw [e]; exact hT _ List.mem_cons_self
    · exact hT q (List.mem_cons_of_mem _ (List.mem_cons_of_mem _ (mem_others.mpr ⟨hq, e⟩)))
end Mine

section
open PySem PySem.W PySem.Calls PyProof.Rows Mine
local macro_rules | `(tactic| walk_at "execs cons") => `(tactic| ((refine wpAny_execs_cons (gen_toks fun tk => hideQ fun _ _ => ?_)); (try dsimp only)))
local macro_rules | `(tactic| walk_at "Hid") => `(tactic| (refine unhide (by assumption) ?_))
local macro_rules | `(tactic| walk_at "execs nil") => `(tactic| ((refine wpAny_execs_nil ?_); (try dsimp only)))
local macro_rules | `(tactic| walk_at "pyIter ref") => `(tactic| ((with_reducible show wpAny _ _ (pyIter _) _ _ _); refine Halt.of ?_))
local macro_rules | `(tactic| walk_at "call builtin:len") => `(tactic| (k_here; (with_reducible show wpAny _ _ (call (Value.builtin "len") [Value.ref _]) _ _ _); k_dflt (refine' kst_len ?k1 ?k2 rfl ?k4 ?_; (case k1 => k_asm); (case k2 => exact List.mem_cons_self); (case k4 => omega); k_whole)))
local macro_rules | `(tactic| walk_at "call builtin:list.append") => `(tactic| (k_here; (with_reducible show wpAny _ _ (call (Value.builtin "list.append") [Value.ref _, _]) _ _ _); k_dflt (refine' append_K ?k1 ?k2 (Upd.head ?k3) ?_ ?k4; (case k1 => k_asm); (case k2 => k_asm); (case k3 => assumption); (case k4 => (simp only [List.size_toArray, sizeLine_eq]; omega)); k_whole); intro h' F' N'))
local macro_rules | `(tactic| walk_at "ite") => `(tactic| first | with_reducible refine ite_tt ?_ | with_reducible refine ite_ff ?_ | (with_reducible refine split_ine ?_ ?_ <;> intro _) | (with_reducible refine split_ieq ?_ ?_ <;> intro _) | with_reducible refine split_not ?_ | (refine split_dec ?_ ?_ <;> intro _) | (refine split_bool ?_ ?_ <;> intro _) | rw [if_pos True.intro] | rw [if_neg not_false])
local macro_rules | `(tactic| walk_at "InvPostN") => `(tactic| ((with_reducible show InvPostN _ _ _ _ _ _ _ _ _); refine Halt.of ?_))
local macro_rules | `(tactic| walk_at "eval ListComp") => `(tactic| ((with_reducible show wpAny _ _ (eval (Expr.ListComp _ _ _ _) _) _ _ _); refine Halt.of ?_))
local macro_rules | `(tactic| walk_at "exec Assign cons ListComp") => `(tactic| ((with_reducible show wpAny _ _ (exec (Stmt.Assign _ (Expr.ListComp _ _ _ _) _) _) _ _ _); refine Halt.of ?_))
local macro_rules | `(tactic| walk_at "CSrc") => `(tactic| ((with_reducible show CSrc _ _ _ _ _ _ _ _ _ _ _ _ _ _ _ _); refine Halt.of ?_))
local macro_rules | `(tactic| walk_at "CEnd") => `(tactic| ((with_reducible show CEnd _ _ _ _ _ _ _ _ _ _ _ _ _ _); refine Halt.of ?_))
local macro_rules | `(tactic| walk_at "Turn") => `(tactic| ((with_reducible show Turn _ _ _ _ _ _ _ _ _ _); refine Halt.of ?_))
local macro_rules | `(tactic| walk_at "exec For Name Call cons nil") => `(tactic| (with_unfolding_all refine For_to ?_))
local macro_rules | `(tactic| walk_at "exec For Name Name cons nil") => `(tactic| (with_unfolding_all refine For_to ?_))
local macro_rules | `(tactic| walk_at "exec For Name Call cons cons") => `(tactic| (with_unfolding_all refine For_to ?_))
local macro_rules | `(tactic| walk_at "exec For") => `(tactic| (with_unfolding_all refine For_to ?_))

-- FTab
theorem Mine.gap_FTab : True ∧ True := by w_top off; walk1 <;> trivial
namespace Mine
open PySem PySem.W PySem.Calls PyProof.Rows
open PyProof.Rows.LCg (NsObj lst)
set_option maxRecDepth 100000

local macro_rules | `(tactic| walk_at "call builtin:str.split") => `(tactic| ((with_reducible show wpAny _ _ (call (Value.builtin "str.split") _) _ _ _); refine Halt.of ?_))
local macro_rules | `(tactic| walk_at "compareOp In str ref") => `(tactic| ((with_reducible show wpAny _ _ (compareOp CmpOp.In _ _) _ _ _); refine Halt.of ?_))
local macro_rules | `(tactic| walk_at "call ref") => `(tactic| ((with_reducible show wpAny _ _ (call (Value.ref _) _ _) _ _ _); refine Halt.of ?_))
local macro_rules | `(tactic| walk_at "call builtin:len") => `(tactic| ((with_reducible show wpAny _ _ (call (Value.builtin "len") _) _ _ _); refine Halt.of ?_))
local macro_rules | `(tactic| walk_at "getMethod ref") => `(tactic| ((with_reducible show wpAny _ _ (getMethod (Value.ref _) _ _) _ _ _); refine Halt.of ?_))
local macro_rules | `(tactic| walk_at "subscriptTail") => `(tactic| ((with_reducible show wpAny _ _ (subscriptTail _ _ (Value.ref _) (Value.int _ _)) _ _ _); refine Halt.of ?_))
def tieF (pc : Nat → List Bool) (flags named : List Str) (one other : Nat) : Bool := (pc one).getD other false != (named.contains (flags.getD one Str.empty) != named.contains (flags.getD other Str.empty))
abbrev tvars : List Str := [Str.ofString "one", Str.ofString "other", Str.ofString "tied"]
abbrev tvars2 : List Str := [Str.ofString "other", Str.ofString "tied"]
theorem tb_i : ∀ n, n < 6 → ∀ i, i < n - 1 → 1 + i < n := by decide +kernel
theorem tb_l : ∀ n, n < 6 → ∀ i, i < n - 1 → ∀ k, k < 1 + i → 20 * i + 2 * k ≤ 1000 := by decide +kernel
theorem tb_o : ∀ n, n < 6 → ∀ i, i < n - 1 → 20 * i + 2 * (1 + i) ≤ 20 * (i + 1) := by decide +kernel
theorem tb_neg (a k : Nat) : -(a : Int) ≤ (k : Int) := by omega
theorem tb_sub (i : Nat) : ((1 + i : Nat) : Int) - 1 = (i : Int) := by omega
theorem tb_p {a b k : Nat} (h : a ≤ b + 2 * k) : a + 1 ≤ b + 2 * (k + 1) := by omega
/-- the helper's locals ahead of its loops -/
def tabM (D3 D2 : Addr) (told : Str) (t : Tok) (af ag : Addr) (z : Str) : Option Value := if z = Str.ofString "rows" then some (.ref D3) else if z = Str.ofString "turned" then some (.ref D2) else if z = Str.ofString "told" then some (.str told t) else if z = Str.ofString "flags" then some (.ref af) else if z = Str.ofString "groups" then some (.ref ag) else none
structure TJe (w : World) (D3 : Addr) (xs : List Value) (base : List (Addr × Obj)) (c : List (List (Str × Str))) (b : Nat) (rs : List Rw) : Prop where
  refs : rs.map (fun r : Rw => Value.ref r.x) = xs
  ok : RowsOk w rs
  cont : rs.map Rw.cont = c
  lt : ∀ r ∈ rs, (∀ q ∈ base, q.1 < r.x) ∧ r.x ≠ D3 ∧ r.prs.length ≤ b
structure TJ (w : World) (D3 : Addr) (xs : List Value) (base : List (Addr × Obj)) (f : Str → Option Value) (tie : Nat → Nat → Bool) (n i : Nat) (m₁ : Str → Option Value) (nw : List (Addr × Obj)) (g : Array GenState) : Prop where
  bare : AllBare g
  off : ∀ z, tvars.contains z = false → m₁ z = f z
  ex : ∃ rs : List Rw, nw = (D3, lst xs) :: (rowsLed rs ++ base) ∧ TJe w D3 xs base (tout tie n i) (20 * i) rs
structure TJ2 (w : World) (D3 I1 : Addr) (oI1 : Obj) (xs : List Value) (base : List (Addr × Obj)) (f : Str → Option Value) (tie : Nat → Nat → Bool) (n i : Nat) (t9 : Tok) (k : Nat) (m₁ : Str → Option Value) (nw : List (Addr × Obj)) (g : Array GenState) : Prop where
  bare : AllBare g
  off : ∀ z, tvars2.contains z = false → m₁ z = (if z = Str.ofString "one" then some (.int ((1 + i : Nat) : Int) t9) else f z)
  ex : ∃ rs : List Rw, nw = (D3, lst xs) :: (I1, oI1) :: (rowsLed rs ++ base) ∧ TJe w D3 xs base (tin tie (1 + i) (tout tie n i) k) (20 * i + 2 * k) rs ∧ ∀ q ∈ rowsLed rs, q.1 ≠ I1
set_option maxHeartbeats 4000000 in
theorem tab_spec (w : World) (p : Program) (loose : List Str) (mean : ExcName → Option Value) (mg mb : Str → Option Value) (gs fs : List Value) (ag af : Addr) (kg kf : Nat) (flags named : List Str) (told : Str) (t : Tok) (pc : Nat → List Bool) (hf : StrsAre fs flags) (hg : ∀ one, 1 ≤ one → one < flags.length → (pc one).length = one ∧ ∃ t, gs[one - 1]? = some (.str (txt (pc one)) t)) (hsp : Txt.split told (Str.ofString ", ") = named) (hlen : told.length ≤ 1000) (hok : okS named) (hok2 : okS flags) (h5 : flags.length ≤ 5) (rest : List (Addr × Obj)) (hgs : (ag, listOf gs.toArray kg) ∈ rest) (hfs : (af, listOf fs.toArray kf) ∈ rest) :
    Spec2 w p loose mean mg mb 4 166 rest [.ref ag, .ref af, .str told t] (fun r nw => ∃ la rs k, r = .ref la ∧ nw = (la, listOf (rs.map (fun r : Rw => Value.ref r.x)).toArray k) :: (rowsLed rs ++ rest) ∧ RowsOk w rs ∧ rs.map Rw.cont = tout (tieF pc flags named) flags.length (flags.length - 1) ∧ (∀ q ∈ rest, q.1 < la) ∧ ∀ r ∈ rs, ∀ q ∈ rest, q.1 < r.x) := by
  unfold Spec2
  k_fill
  intro dp un gd cn cs a ccd cl outer A₀ base h₀ L m s Q E B F X N T hbare hk hdp hun hret
  have hdp' : dp + 1 < recursionLimit := room_of (d' := 0) hdp (by decide)
  have kMark : KstMark := kstMark
  have hfl := StrsAre.length hf
  have h55 : flags.length ≤ 5 := h5
  refine wpAny_call ?_
  k_dflt (refine' code_defC ?k1 ?k2 ?k3 ?k4 ?k5 ?kA ?kF ?kK ?k6 ?k7 ?k8 ?k9 ?kB ?kD ?_ ?c2 ?c3 ?c4; (case kA => exact rfl); (case kF => exact rfl); (case kK => assumption); (case k1 => k_asm); (case k2 => k_asm); (case k3 => k_asm); (case k4 => k_asm); (case k5 => k_asm); (case k6 => k_is); (case k7 => k_is); (case k8 => (first | exact room_of (dp := dp) hdp (by decide) | exact room_of2 (dp := dp) hdp (by decide) | ktr_room)); (case k9 => exact BindsTo.of_eq rfl); (case kB => exact rfl); (case kD => decide +kernel); (case c2 => exact rfl); (case c3 => exact rfl); (case c4 => exact rfl); k_whole)
  intro g' L' h' tk' cells' FG' F' N' Y' B' X' T' l1
  (try k_lt l1)
  have hY := CellsAre.one Y'; obtain ⟨co1, hE', cd1⟩ := hY; subst hE'; clear Y'
  (try simp only [List.cons_append, List.nil_append] at N')
  (try dsimp only)
  (try k_lift B')
  (try k_fold)
  (try refine wpAny_noRaise ?_)
  as_aux_lemma =>
    replace F' : Fr g' L' h' (fun y => if y = Str.ofString "told" then some (.str told t) else if y = Str.ofString "flags" then some (.ref af) else if y = Str.ofString "groups" then some (.ref ag) else none) := F'
    replace cd1 : co1.data = .cell none := cd1
    k_steps
    refine KSpl.split1 (by assumption) (by assumption) (by decide +kernel) ?_ (by rw [sizeLine_eq]; exact Nat.le_trans (Nat.add_le_add_right hlen 2) (by decide))
    intro D l h2 k2 el hl F2 N2 lD
    rw [hsp] at el
    rw [el] at hl
    generalize strValues l = nv at hl N2
    k_steps
    refine store_cell [(D, _)] rest rfl rfl rfl F2 N2 cd1 ?_ ?_ ?_
    · exact List.forall_mem_cons.mpr ⟨Nat.ne_of_gt (lD _ List.mem_cons_self), List.forall_mem_nil _⟩
    · exact fun q hq => Nat.ne_of_lt (Nat.lt_succ_of_lt (l1 q hq))
    intro oc h3 tk3 hoc F3 N3
    simp only [List.cons_append, List.nil_append] at N3
    k_steps
    as_aux_lemma =>
      refine comp_assign F3 (by rfl) (by with_unfolding_all rfl) (by with_unfolding_all rfl) (by decide) (by rfl) (by decide) (by rfl) (by rfl) (by rfl) ?_
      k_steps
      unfold Halt
      have hfm : (af, listOf fs.toArray kf) ∈ (D, listOf nv.toArray 0) :: (L' + 1, oc) :: rest := List.mem_cons_of_mem _ (List.mem_cons_of_mem _ hfs)
      refine ⟨_, _, _, _, fun i ys nw g => g = s.gens ∧ nw = (D, listOf nv.toArray 0) :: (L' + 1, oc) :: rest ∧ ys = (flags.take i).map (fun x => .bool (named.contains x)), F3, N3, ?_, src_list rfl F3 N3 hfm, hfm, ⟨rfl, rfl, rfl⟩, CTurn.plain ?_, ?_⟩
      · rw [hfl, sizeLine_eq]; exact Nat.le_trans h55 (by decide)
      · rintro i ys nw v I oI C oC D2 m₂ h4 tk4 g4 E' hi hyl ⟨rfl, rfl, rfl⟩ hS hv hoC hm2 F4 N4 off4 ne4 lt4
        have hi' : i < flags.length := hfl ▸ hi
        obtain ⟨tv, hv'⟩ := StrsAre.get hf i flags[i] (List.getElem?_eq_getElem hi')
        rw [hv] at hv'; cases hv'
        k_steps
        refine in_strs (News.isList N4 (List.mem_cons_of_mem _ (List.mem_cons_of_mem _ (List.mem_cons_of_mem _ List.mem_cons_self)))) hl hok (hok2 _ (List.getElem_mem hi')) (by (first | exact (units_of (un := un) (d := 4) (k := 3) (d' := 1) hun (by decide)) | exact (units_of (un := un) (d := 4) (k := 3) (d' := 2) hun (by decide)) | exact (units_of (un := un) (d := 4) (k := 3) (d' := 4) hun (by decide)) | exact (units_of (un := un) (d := 4) (k := 4) (d' := 1) hun (by decide)) | exact (units_of (un := un) (d := 4) (k := 4) (d' := 2) hun (by decide)) | exact (units_of (un := un) (d := 4) (k := 4) (d' := 4) hun (by decide)) | exact (units_at (un := un) (d := 4) (k := 3) (j := 64) hun (by decide)) | ktr_units)) ?_
        k_steps
        refine CEnd.intro F4 N4 _ (fun _ h => h) off4 hS ⟨rfl, rfl, ?_⟩
        rw [List.take_succ, List.getElem?_eq_getElem hi', List.map_append]; rfl
      · rintro D2 h4 tk4 g4 ys nw F4 N4 off4 lt4 ⟨rfl, rfl, rfl⟩ hS
        as_aux_lemma =>
          k_steps
          unfold Halt
          simp only [hfl, List.take_length] at N4
          generalize hbs : flags.map (fun x => Value.bool (named.contains x)) = bv at N4
          replace F4 : Fr g' L' h4 (fun z => if z = Str.ofString "turned" then some (.ref D2) else if z = Str.ofString "told" then some (.str told t) else if z = Str.ofString "flags" then some (.ref af) else if z = Str.ofString "groups" then some (.ref ag) else none) := F4
          refine comp_assign F4 (by rfl) (by with_unfolding_all rfl) (by with_unfolding_all rfl) (by decide) (by rfl) (by decide) (by rfl) (by rfl) (by rfl) ?_
          k_steps
          unfold Halt
          have hfm2 : (af, listOf fs.toArray kf) ∈ (D2, lst bv) :: (D, listOf nv.toArray 0) :: (L' + 1, oc) :: rest := List.mem_cons_of_mem _ hfm
          refine ⟨_, _, _, _, fun i ys nw g => g = s.gens ∧ ∃ rs : List Rw, nw = rowsLed rs ++ ((D2, lst bv) :: (D, listOf nv.toArray 0) :: (L' + 1, oc) :: rest) ∧ ys = rs.map (fun r => Value.ref r.x) ∧ RowsOk w rs ∧ rs.map Rw.cont = List.replicate i [] ∧ ∀ r ∈ rs, ∀ q ∈ (D2, lst bv) :: (D, listOf nv.toArray 0) :: (L' + 1, oc) :: rest, q.1 < r.x, F4, N4, ?_, src_list rfl F4 N4 hfm2, hfm2, ⟨rfl, [], rfl, rfl, ⟨List.nodup_nil, fun _ h => nomatch h⟩, rfl, fun _ h => nomatch h⟩, CTurn.plain ?_, ?_⟩
          · rw [hfl, sizeLine_eq]; exact Nat.le_trans h55 (by decide)
          · rintro i ys nw v I oI C oC D3 m₂ h5 tk5 g5 E' hi hyl ⟨rfl, rs, rfl, rfl, hrok, hcont, hrlt⟩ hS hv hoC hm2 F5 N5 off5 ne5 lt5
            k_steps
            refine new_spec w p loose mean mg mb _ _ _ _ _ _ _ _ _ _ _ _ _ _ _ _ _ _ B' F5 X' N5 T' rfl ?_ ?_ ?_
            · (first | exact room_of (dp := dp) hdp (by decide) | exact room_of2 (dp := dp) hdp (by decide) | ktr_room)
            · (first | exact (units_of (un := un) (d := 4) (k := 3) (d' := 1) hun (by decide)) | exact (units_of (un := un) (d := 4) (k := 3) (d' := 2) hun (by decide)) | exact (units_of (un := un) (d := 4) (k := 3) (d' := 4) hun (by decide)) | exact (units_of (un := un) (d := 4) (k := 4) (d' := 1) hun (by decide)) | exact (units_of (un := un) (d := 4) (k := 4) (d' := 2) hun (by decide)) | exact (units_of (un := un) (d := 4) (k := 4) (d' := 4) hun (by decide)) | exact (units_at (un := un) (d := 4) (k := 3) (j := 64) hun (by decide)) | ktr_units)
            rintro r tl h6 tk6 F6 N6 ⟨x, dx, od, k6, rfl, rfl, hod, lt6, ltx⟩
            simp only [List.cons_append, List.nil_append] at N6
            dsimp only
            k_steps
            unfold Halt
            have hxr : ∀ r ∈ rs, r.x < x := fun r hr => Nat.lt_trans (lt6 _ (List.mem_cons_of_mem _ (List.mem_cons_of_mem _ (List.mem_cons_of_mem _ (List.mem_append_left _ (led_x hr)))))) ltx
            have lI := lt6 _ (List.mem_cons_self)
            have lC := lt6 _ (List.mem_cons_of_mem _ List.mem_cons_self)
            have lD3 := lt6 _ (List.mem_cons_of_mem _ (List.mem_cons_of_mem _ List.mem_cons_self))
            refine CEnd.intro F6 N6 (rowsLed (rs ++ [⟨x, dx, od, [], k6⟩]) ++ ((D2, lst bv) :: (D, listOf nv.toArray 0) :: (L' + 1, oc) :: rest)) ?_ ?_ (List.mem_append_right _ hfm2) ⟨rfl, rs ++ [⟨x, dx, od, [], k6⟩], rfl, by simp, hrok.snoc hod hxr, by rw [List.map_append, hcont, List.replicate_succ']; rfl, ?_⟩
            · intro q hq
              rcases List.mem_cons.mp hq with rfl | hq
              · exact List.mem_cons_of_mem _ (List.mem_cons_of_mem _ List.mem_cons_self)
              · rcases List.mem_cons.mp hq with rfl | hq
                · exact List.mem_cons_of_mem _ (List.mem_cons_of_mem _ (List.mem_cons_of_mem _ List.mem_cons_self))
                · rcases List.mem_cons.mp hq with rfl | hq
                  · exact List.mem_cons_of_mem _ (List.mem_cons_of_mem _ (List.mem_cons_of_mem _ (List.mem_cons_of_mem _ List.mem_cons_self)))
                  · rcases led_snoc q hq with rfl | rfl | hq
                    · exact List.mem_cons_self
                    · exact List.mem_cons_of_mem _ List.mem_cons_self
                    · exact List.mem_cons_of_mem _ (List.mem_cons_of_mem _ (List.mem_cons_of_mem _ (List.mem_cons_of_mem _ (List.mem_cons_of_mem _ hq))))
            · intro q hq
              rcases led_snoc q hq with rfl | rfl | hq
              · exact ⟨Nat.ne_of_gt (Nat.lt_trans lI ltx), Nat.ne_of_gt (Nat.lt_trans lC ltx), Nat.ne_of_gt (Nat.lt_trans lD3 ltx)⟩
              · exact ⟨Nat.ne_of_gt lI, Nat.ne_of_gt lC, Nat.ne_of_gt lD3⟩
              · exact off5 q hq
            · intro r hr q hq
              rcases List.mem_append.mp hr with hr | hr
              · exact hrlt r hr q hq
              · rw [List.mem_singleton.mp hr]
                exact Nat.lt_trans (lt6 q (List.mem_cons_of_mem _ (List.mem_cons_of_mem _ (List.mem_cons_of_mem _ (List.mem_append_right _ hq))))) ltx
          · rintro D3 h5 tk5 g5 ys nw F5 N5 off5 lt5 ⟨rfl, rs, rfl, rfl, hrok, hcont, hrlt⟩ hS
            replace F5 : Fr g' L' h5 (tabM D3 D2 told t af ag) := F5
            rw [hfl] at hcont
            generalize hbase : (D2, lst bv) :: (D, listOf nv.toArray 0) :: (L' + 1, oc) :: rest = base at *
            generalize hxs : rs.map (fun r => Value.ref r.x) = xs at *
            k_steps
            refine kst_len N5 (us := fs) (List.mem_cons_of_mem _ hS) rfl (Int.ofNat_lt.mpr (show fs.length < 2 ^ 63 from Nat.lt_of_le_of_lt (Nat.le_trans (Nat.le_of_eq hfl) h55) (by decide))) ?_
            k_steps
            rename_i hR F6 N6 hk6
            as_aux_lemma =>
              have hnn : rs.length = flags.length := by have := congrArg List.length hcont; simpa using this
              refine loop_range (flags.length - 1) rfl hR ?_ ?_ F6 N6 (TJ w D3 xs base (tabM D3 D2 told t af ag) (tieF pc flags named) flags.length) ⟨hbare, fun _ _ => rfl, rs, rfl, hxs, hrok, hcont, fun r hr => ⟨hrlt r hr, off5 _ (List.mem_append_left _ (led_x hr)), by have := List.mem_map_of_mem (f := Rw.cont) hr; rw [hcont] at this; have h0 := (List.mem_replicate.mp this).2; unfold Rw.cont at h0; rw [List.map_eq_nil_iff.mp h0]; exact Nat.zero_le _⟩⟩ ?_ ?_
              · exact small_nat (a := 1) (by decide) (Nat.lt_of_le_of_lt (Nat.le_trans (Nat.le_of_eq hfl) h55) (by decide))
              · exact (size_nat 1 fs.length).trans (congrArg (fun x : Nat => ((x - 1 : Nat) : Int)) hfl)
              · rintro I1 i oI1 t9 m₁ nw h tk g hi ⟨hb1, hm1, rs1, rfl, hxs1, hrok1, hcont1, hlt1⟩ offI1 ltI1 F7 N7
                rw [off_eq tvars hm1] at F7
                have ei : (1 : Int) + (i : Int) = ((1 + i : Nat) : Int) := (Int.natCast_add 1 i).symm
                rw [ei]
                as_aux_lemma =>
                  k_steps
                  rename_i hR8 F8 N8 hk8
                  refine loop_range (1 + i) rfl hR8 ?_ ?_ F8 (sub_news (news' := (D3, lst xs) :: (I1, oI1) :: (rowsLed rs1 ++ base)) N8 ?_) (TJ2 w D3 I1 oI1 xs base (tabM D3 D2 told t af ag) (tieF pc flags named) flags.length i t9) ⟨hb1, ?_, rs1, rfl, ⟨hxs1, hrok1, hcont1, hlt1⟩, ?_⟩ ?_ ?_
                  · exact small_nat (a := 0) (by decide) (Nat.lt_trans (tb_i _ (Nat.lt_succ_of_le h55) i hi) (Nat.lt_of_le_of_lt h55 (by decide)))
                  · rw [rangeSize_nat]; congr 1
                  · intro q hq
                    rcases List.mem_cons.mp hq with rfl | hq
                    · exact List.mem_cons_of_mem _ List.mem_cons_self
                    · rcases List.mem_cons.mp hq with rfl | hq
                      · exact List.mem_cons_self
                      · exact List.mem_cons_of_mem _ (List.mem_cons_of_mem _ hq)
                  · intro z hz
                    by_cases e : z = Str.ofString "one"
                    · simp only [e, if_true]
                    · have h3 : tvars.contains z = false := by
                        simp only [tvars, tvars2, List.contains_cons, List.contains_nil, Bool.or_false] at hz ⊢
                        rw [hz, Bool.or_false]; exact beq_eq_false_iff_ne.mpr e
                      simp only [if_neg e, h3, Bool.false_eq_true, if_false]
                  · exact fun q hq => offI1 q (List.mem_cons_of_mem _ (List.mem_append_left _ hq))
                  · rintro I2 k oI2 t5 m₁ nw h9 tk9 g9 hk9 ⟨hb9, hm9, rs9, rfl, ⟨hxs9, hrok9, hcont9, hlt9⟩, hI9⟩ offI2 ltI2 F9 N9
                    rw [off_eq tvars2 hm9] at F9
                    simp only [Int.zero_add]
                    have hone : 1 + i < flags.length := tb_i _ (Nat.lt_succ_of_le h55) i hi
                    obtain ⟨hpl, tg, hgi⟩ := hg (1 + i) (Nat.le_add_right 1 i) hone
                    have hgm : (ag, listOf gs.toArray kg) ∈ base := by rw [← hbase]; exact List.mem_cons_of_mem _ (List.mem_cons_of_mem _ (List.mem_cons_of_mem _ hgs))
                    have hbm : (D2, lst bv) ∈ base := by rw [← hbase]; exact List.mem_cons_self
                    have inB : ∀ q ∈ base, q ∈ (I2, oI2) :: (D3, lst xs) :: (I1, oI1) :: (rowsLed rs9 ++ base) := fun q hq => List.mem_cons_of_mem _ (List.mem_cons_of_mem _ (List.mem_cons_of_mem _ (List.mem_append_right _ hq)))
                    have h1i5 : 1 + i < 5 := Nat.lt_of_lt_of_le hone h55
                    have hi5 : i < 5 := Nat.lt_of_le_of_lt (Nat.le_add_left i 1) h1i5
                    have hk5 : k < 5 := Nat.lt_trans hk9 h1i5
                    have bk : (k : Int) < 5 := Int.ofNat_lt.mpr hk5
                    have bi : (i : Int) < 5 := Int.ofNat_lt.mpr hi5
                    have hki : 1 + i ≠ k := Nat.ne_of_gt hk9
                    have hlk : 20 * i + 2 * k ≤ 1000 := tb_l _ (Nat.lt_succ_of_le h55) i hi k hk9
                    have hkk : 20 * i + 2 * k ≤ 20 * i + 2 * (k + 1) := Nat.add_le_add_left (Nat.mul_le_mul_left 2 (Nat.le_succ k)) _
                    have hlp : (txt (pc (1 + i))).length = 1 + i := by rw [txt_length, hpl]
                    have hlp2 : (k : Int) < ((txt (pc (1 + i))).length : Int) := Int.ofNat_lt.mpr (Nat.lt_of_lt_of_le hk9 (Nat.le_of_eq hlp.symm))
                    have hlp3 : -((txt (pc (1 + i))).length : Int) ≤ (k : Int) := tb_neg _ _
                    as_aux_lemma =>
                      k_steps
                      (rename News _ _ _ _ => Na)
                      refine sub_item (News.isList Na (inB _ hgm)) (i := i) (tb_sub i) (Nat.lt_trans hi5 (by decide)) (by rw [Nat.add_sub_cancel_left] at hgi; exact hgi) ?_
                      k_steps
                      (rename News _ _ _ _ => Nb)
                      have hb1' : bv[1 + i]? = some (.bool (named.contains (flags.getD (1 + i) Str.empty))) := by
                        rw [← hbs, List.getElem?_map, List.getElem?_eq_getElem hone]; simp [List.getD_eq_getElem?_getD, hone]
                      have hk' : k < flags.length := Nat.lt_trans hk9 hone
                      have hb2' : bv[k]? = some (.bool (named.contains (flags.getD k Str.empty))) := by
                        rw [← hbs, List.getElem?_map, List.getElem?_eq_getElem hk']; simp [List.getD_eq_getElem?_getD, hk']
                      generalize hq1 : named.contains (flags.getD (1 + i) Str.empty) = q1 at hb1'
                      generalize hq2 : named.contains (flags.getD k Str.empty) = q2 at hb2'
                      refine sub_item (News.isList Nb (inB _ hbm)) (i := 1 + i) rfl (Nat.lt_trans h1i5 (by decide)) hb1' ?_
                      k_steps
                      have htie : tieF pc flags named (1 + i) k = ((pc (1 + i)).getD k false != (q1 != q2)) := by unfold tieF; rw [hq1, hq2]
                      have hlen9 : rs9.length = flags.length := by have := congrArg List.length (hxs9.trans hxs.symm); simpa [hnn] using this
                      obtain ⟨r1, hr1⟩ : ∃ r, rs9[1 + i]? = some r := ⟨_, List.getElem?_eq_getElem (by rw [hlen9]; exact hone)⟩
                      have hr1m := List.mem_of_getElem? hr1
                      obtain ⟨r2, hr2⟩ : ∃ r, rs9[k]? = some r := ⟨_, List.getElem?_eq_getElem (by rw [hlen9]; exact hk')⟩
                      have hr2m := List.mem_of_getElem? hr2
                      have hxr1 : xs[1 + i]? = some (.ref r1.x) := by rw [← hxs9, List.getElem?_map, hr1]; rfl
                      have hxr2 : xs[k]? = some (.ref r2.x) := by rw [← hxs9, List.getElem?_map, hr2]; rfl
                      have inR : ∀ q ∈ rowsLed rs9, q ∈ (I2, oI2) :: (D3, lst xs) :: (I1, oI1) :: (rowsLed rs9 ++ base) := fun q hq => List.mem_cons_of_mem _ (List.mem_cons_of_mem _ (List.mem_cons_of_mem _ (List.mem_append_left _ hq)))
                      refine sub_item (News.isList Nb (inB _ hbm)) (i := k) rfl (Nat.lt_trans hk5 (by decide)) hb2' ?_
                      k_steps
                      all_goals (rename (Txt.item _ _ == _) = _ => hit; rw [txt_charAt _ _ (by rw [hpl]; exact hk9), sgn_x] at hit)
                      · (rename News _ _ _ _ => Nx)
                        (rename Fr _ _ _ _ => Fx)
                        unfold Halt
                        refine Turn.next ((D3, lst xs) :: (I1, oI1) :: (rowsLed rs9 ++ base)) Fx Nx (fun _ h => h) offI2 trivial ⟨hb9, ?_, rs9, rfl, ⟨hxs9, hrok9, ?_, fun r hr => ⟨(hlt9 r hr).1, (hlt9 r hr).2.1, Nat.le_trans (hlt9 r hr).2.2 hkk⟩⟩, hI9⟩
                        · intro z hz
                          have hh : z ≠ Str.ofString "other" ∧ z ≠ Str.ofString "tied" := by refine ⟨?_, ?_⟩ <;> (rintro rfl; exact absurd hz (by decide +kernel))
                          simp only [hz, hh, Bool.false_eq_true, if_false]
                        · rw [tin_s, tstep, if_neg (by rw [htie]; simp only [*]; decide)]; exact hcont9
                      · (rename News _ _ _ _ => Nx)
                        (rename Fr _ _ _ _ => Fx)
                        unfold Halt
                        as_aux_lemma =>
                          refine sub_item (News.isList Nx (List.mem_cons_of_mem _ List.mem_cons_self)) (i := 1 + i) rfl (Nat.lt_trans h1i5 (by decide)) hxr1 ?_
                          k_steps
                          refine acc_getPush (X'.keeps (Fr.keep Fx)) (Nx _ (inR _ (led_x hr1m))).1 (Nx _ (inR _ (led_dx hr1m))).1 (hrok9.od r1 hr1m).2.1 ?_
                          k_steps
                          rw [abc_item hk5]
                          have Nq : News g' L' _ (rowsLed rs9 ++ ((I2, oI2) :: (D3, lst xs) :: (I1, oI1) :: base)) := sub_news Nx (fun q hq => by
                            rcases List.mem_append.mp hq with hq | hq
                            · exact inR q hq
                            · rcases List.mem_cons.mp hq with rfl | hq
                              · exact List.mem_cons_self
                              · rcases List.mem_cons.mp hq with rfl | hq
                                · exact List.mem_cons_of_mem _ List.mem_cons_self
                                · rcases List.mem_cons.mp hq with rfl | hq
                                  · exact List.mem_cons_of_mem _ (List.mem_cons_of_mem _ List.mem_cons_self)
                                  · exact inB q hq)
                          have hbx : ∀ r ∈ rs9, ∀ q ∈ (I2, oI2) :: (D3, lst xs) :: (I1, oI1) :: base, q.1 ≠ r.x := fun r hr => List.forall_mem_cons.mpr ⟨fun e => offI2 _ (List.mem_cons_of_mem _ (List.mem_cons_of_mem _ (List.mem_append_left _ (led_x hr)))) e.symm, List.forall_mem_cons.mpr ⟨Ne.symm (hlt9 r hr).2.1, List.forall_mem_cons.mpr ⟨fun e => hI9 _ (led_x hr) e.symm, fun q hq => Nat.ne_of_lt ((hlt9 r hr).1 q hq)⟩⟩⟩
                          refine push_row w p loose mean mg mb B' Fx X' Nq T' hb9 rfl (by (first | exact room_of (dp := dp) hdp (by decide) | exact room_of2 (dp := dp) hdp (by decide) | ktr_room)) (by (first | exact (units_of (un := un) (d := 4) (k := 3) (d' := 1) hun (by decide)) | exact (units_of (un := un) (d := 4) (k := 3) (d' := 2) hun (by decide)) | exact (units_of (un := un) (d := 4) (k := 3) (d' := 4) hun (by decide)) | exact (units_of (un := un) (d := 4) (k := 4) (d' := 1) hun (by decide)) | exact (units_of (un := un) (d := 4) (k := 4) (d' := 2) hun (by decide)) | exact (units_of (un := un) (d := 4) (k := 4) (d' := 4) hun (by decide)) | exact (units_at (un := un) (d := 4) (k := 3) (j := 64) hun (by decide)) | ktr_units)) hrok9 hr1 (Nat.le_trans (hlt9 r1 hr1m).2.2 hlk) (hbx r1 hr1m) ?_
                          intro ha tka ga qa hba Fa Na qa1 qa2 hqa
                          as_aux_lemma =>
                            k_steps
                            (rename News _ _ _ _ => Ny)
                            (rename Fr _ _ _ _ => Fy)
                            have hr2' : (rs9.set (1 + i) (r1.push qa))[k]? = some r2 := by rw [List.getElem?_set_ne hki]; exact hr2
                            have hrokA := hrok9.set hr1 qa
                            have hr2A := List.mem_of_getElem? hr2'
                            have inA : ∀ q ∈ rowsLed (rs9.set (1 + i) (r1.push qa)), q ∈ rowsLed (rs9.set (1 + i) (r1.push qa)) ++ ((I2, oI2) :: (D3, lst xs) :: (I1, oI1) :: base) := fun q hq => List.mem_append_left _ hq
                            refine sub_item (News.isList Ny (List.mem_append_right _ (List.mem_cons_of_mem _ List.mem_cons_self))) (i := k) rfl (Nat.lt_trans hk5 (by decide)) hxr2 ?_
                            k_steps
                            refine acc_getPush (X'.keeps (Fr.keep Fy)) (Ny _ (inA _ (led_x hr2A))).1 (Ny _ (inA _ (led_dx hr2A))).1 (hrokA.od r2 hr2A).2.1 ?_
                            k_steps
                            rw [abc_item h1i5]
                            refine push_row w p loose mean mg mb B' Fy X' Ny T' hba rfl (by (first | exact room_of (dp := dp) hdp (by decide) | exact room_of2 (dp := dp) hdp (by decide) | ktr_room)) (by (first | exact (units_of (un := un) (d := 4) (k := 3) (d' := 1) hun (by decide)) | exact (units_of (un := un) (d := 4) (k := 3) (d' := 2) hun (by decide)) | exact (units_of (un := un) (d := 4) (k := 3) (d' := 4) hun (by decide)) | exact (units_of (un := un) (d := 4) (k := 4) (d' := 1) hun (by decide)) | exact (units_of (un := un) (d := 4) (k := 4) (d' := 2) hun (by decide)) | exact (units_of (un := un) (d := 4) (k := 4) (d' := 4) hun (by decide)) | exact (units_at (un := un) (d := 4) (k := 3) (j := 64) hun (by decide)) | ktr_units)) hrokA hr2' (Nat.le_trans (hlt9 r2 hr2m).2.2 hlk) (hbx r2 hr2m) ?_
                            intro hb tkb gb qb hbb Fb Nb' qb1 qb2 hqb
                            as_aux_lemma =>
                              have hI2qa : qa.1 ≠ I2 := Nat.ne_of_gt (hqa _ (List.mem_append_right _ List.mem_cons_self))
                              have hI1qa : qa.1 ≠ I1 := Nat.ne_of_gt (hqa _ (List.mem_append_right _ (List.mem_cons_of_mem _ (List.mem_cons_of_mem _ List.mem_cons_self))))
                              have hI2qb : qb.1 ≠ I2 := Nat.ne_of_gt (hqb _ (List.mem_append_right _ List.mem_cons_self))
                              have hI1qb : qb.1 ≠ I1 := Nat.ne_of_gt (hqb _ (List.mem_append_right _ (List.mem_cons_of_mem _ (List.mem_cons_of_mem _ List.mem_cons_self))))
                              have hemp : Str.ofString "" = Str.empty := by decide +kernel
                              k_steps
                              (rename News _ _ _ _ => Nz)
                              (rename Fr _ _ _ _ => Fz)
                              refine Turn.next ((D3, lst xs) :: (I1, oI1) :: (rowsLed ((rs9.set (1 + i) (r1.push qa)).set k (r2.push qb)) ++ base)) Fz Nz ?_ ?_ trivial ⟨hbb, ?_, _, rfl, ⟨?_, hrokA.set hr2' qb, ?_, ?_⟩, led_ne hr2' (led_ne hr1 hI9 hI1qa) hI1qb⟩
                              · intro q hq
                                rcases List.mem_cons.mp hq with rfl | hq
                                · exact List.mem_append_right _ List.mem_cons_self
                                · rcases List.mem_cons.mp hq with rfl | hq
                                  · exact List.mem_append_right _ (List.mem_cons_of_mem _ List.mem_cons_self)
                                  · rcases List.mem_cons.mp hq with rfl | hq
                                    · exact List.mem_append_right _ (List.mem_cons_of_mem _ (List.mem_cons_of_mem _ List.mem_cons_self))
                                    · rcases List.mem_append.mp hq with hq | hq
                                      · exact List.mem_append_left _ hq
                                      · exact List.mem_append_right _ (List.mem_cons_of_mem _ (List.mem_cons_of_mem _ (List.mem_cons_of_mem _ hq)))
                              · refine List.forall_mem_cons.mpr ⟨offI2 _ List.mem_cons_self, List.forall_mem_cons.mpr ⟨offI2 _ (List.mem_cons_of_mem _ List.mem_cons_self), fun q hq => ?_⟩⟩
                                rcases List.mem_append.mp hq with hq | hq
                                · exact led_ne hr2' (led_ne hr1 (fun q hq => offI2 q (List.mem_cons_of_mem _ (List.mem_cons_of_mem _ (List.mem_append_left _ hq)))) hI2qa) hI2qb q hq
                                · exact offI2 q (List.mem_cons_of_mem _ (List.mem_cons_of_mem _ (List.mem_append_right _ hq)))
                              · intro z hz
                                have hh : z ≠ Str.ofString "other" ∧ z ≠ Str.ofString "tied" := by refine ⟨?_, ?_⟩ <;> (rintro rfl; exact absurd hz (by decide +kernel))
                                simp only [hz, hh, Bool.false_eq_true, if_false]
                              · rw [set_x hr2', set_x hr1]; exact hxs9
                              · rw [tin_s, tstep, if_pos (by rw [htie]; simp only [*]; decide), cont_set (cont_set hcont9 hr1 qa) hr2' qb, qa1, qa2, qb1, qb2, hemp]
                              · refine set_all hr2' (set_all hr1 (fun r hr => ⟨(hlt9 r hr).1, (hlt9 r hr).2.1, Nat.le_trans (hlt9 r hr).2.2 hkk⟩) fun h => ⟨h.1, h.2.1, ?_⟩) fun h => ⟨h.1, h.2.1, ?_⟩
                                · show (r1.prs ++ [qa]).length ≤ _
                                  rw [List.length_append, List.length_singleton]; exact tb_p (hlt9 r1 hr1m).2.2
                                · show (r2.prs ++ [qb]).length ≤ _
                                  rw [List.length_append, List.length_singleton]; exact tb_p (hlt9 r2 hr2m).2.2
                      · (rename News _ _ _ _ => Nx)
                        (rename Fr _ _ _ _ => Fx)
                        unfold Halt
                        as_aux_lemma =>
                          refine sub_item (News.isList Nx (List.mem_cons_of_mem _ List.mem_cons_self)) (i := 1 + i) rfl (Nat.lt_trans h1i5 (by decide)) hxr1 ?_
                          k_steps
                          refine acc_getPush (X'.keeps (Fr.keep Fx)) (Nx _ (inR _ (led_x hr1m))).1 (Nx _ (inR _ (led_dx hr1m))).1 (hrok9.od r1 hr1m).2.1 ?_
                          k_steps
                          rw [abc_item hk5]
                          have Nq : News g' L' _ (rowsLed rs9 ++ ((I2, oI2) :: (D3, lst xs) :: (I1, oI1) :: base)) := sub_news Nx (fun q hq => by
                            rcases List.mem_append.mp hq with hq | hq
                            · exact inR q hq
                            · rcases List.mem_cons.mp hq with rfl | hq
                              · exact List.mem_cons_self
                              · rcases List.mem_cons.mp hq with rfl | hq
                                · exact List.mem_cons_of_mem _ List.mem_cons_self
                                · rcases List.mem_cons.mp hq with rfl | hq
                                  · exact List.mem_cons_of_mem _ (List.mem_cons_of_mem _ List.mem_cons_self)
                                  · exact inB q hq)
                          have hbx : ∀ r ∈ rs9, ∀ q ∈ (I2, oI2) :: (D3, lst xs) :: (I1, oI1) :: base, q.1 ≠ r.x := fun r hr => List.forall_mem_cons.mpr ⟨fun e => offI2 _ (List.mem_cons_of_mem _ (List.mem_cons_of_mem _ (List.mem_append_left _ (led_x hr)))) e.symm, List.forall_mem_cons.mpr ⟨Ne.symm (hlt9 r hr).2.1, List.forall_mem_cons.mpr ⟨fun e => hI9 _ (led_x hr) e.symm, fun q hq => Nat.ne_of_lt ((hlt9 r hr).1 q hq)⟩⟩⟩
                          refine push_row w p loose mean mg mb B' Fx X' Nq T' hb9 rfl (by (first | exact room_of (dp := dp) hdp (by decide) | exact room_of2 (dp := dp) hdp (by decide) | ktr_room)) (by (first | exact (units_of (un := un) (d := 4) (k := 3) (d' := 1) hun (by decide)) | exact (units_of (un := un) (d := 4) (k := 3) (d' := 2) hun (by decide)) | exact (units_of (un := un) (d := 4) (k := 3) (d' := 4) hun (by decide)) | exact (units_of (un := un) (d := 4) (k := 4) (d' := 1) hun (by decide)) | exact (units_of (un := un) (d := 4) (k := 4) (d' := 2) hun (by decide)) | exact (units_of (un := un) (d := 4) (k := 4) (d' := 4) hun (by decide)) | exact (units_at (un := un) (d := 4) (k := 3) (j := 64) hun (by decide)) | ktr_units)) hrok9 hr1 (Nat.le_trans (hlt9 r1 hr1m).2.2 hlk) (hbx r1 hr1m) ?_
                          intro ha tka ga qa hba Fa Na qa1 qa2 hqa
                          as_aux_lemma =>
                            k_steps
                            (rename News _ _ _ _ => Ny)
                            (rename Fr _ _ _ _ => Fy)
                            have hr2' : (rs9.set (1 + i) (r1.push qa))[k]? = some r2 := by rw [List.getElem?_set_ne hki]; exact hr2
                            have hrokA := hrok9.set hr1 qa
                            have hr2A := List.mem_of_getElem? hr2'
                            have inA : ∀ q ∈ rowsLed (rs9.set (1 + i) (r1.push qa)), q ∈ rowsLed (rs9.set (1 + i) (r1.push qa)) ++ ((I2, oI2) :: (D3, lst xs) :: (I1, oI1) :: base) := fun q hq => List.mem_append_left _ hq
                            refine sub_item (News.isList Ny (List.mem_append_right _ (List.mem_cons_of_mem _ List.mem_cons_self))) (i := k) rfl (Nat.lt_trans hk5 (by decide)) hxr2 ?_
                            k_steps
                            refine acc_getPush (X'.keeps (Fr.keep Fy)) (Ny _ (inA _ (led_x hr2A))).1 (Ny _ (inA _ (led_dx hr2A))).1 (hrokA.od r2 hr2A).2.1 ?_
                            k_steps
                            rw [abc_item h1i5]
                            refine push_row w p loose mean mg mb B' Fy X' Ny T' hba rfl (by (first | exact room_of (dp := dp) hdp (by decide) | exact room_of2 (dp := dp) hdp (by decide) | ktr_room)) (by (first | exact (units_of (un := un) (d := 4) (k := 3) (d' := 1) hun (by decide)) | exact (units_of (un := un) (d := 4) (k := 3) (d' := 2) hun (by decide)) | exact (units_of (un := un) (d := 4) (k := 3) (d' := 4) hun (by decide)) | exact (units_of (un := un) (d := 4) (k := 4) (d' := 1) hun (by decide)) | exact (units_of (un := un) (d := 4) (k := 4) (d' := 2) hun (by decide)) | exact (units_of (un := un) (d := 4) (k := 4) (d' := 4) hun (by decide)) | exact (units_at (un := un) (d := 4) (k := 3) (j := 64) hun (by decide)) | ktr_units)) hrokA hr2' (Nat.le_trans (hlt9 r2 hr2m).2.2 hlk) (hbx r2 hr2m) ?_
                            intro hb tkb gb qb hbb Fb Nb' qb1 qb2 hqb
                            as_aux_lemma =>
                              have hI2qa : qa.1 ≠ I2 := Nat.ne_of_gt (hqa _ (List.mem_append_right _ List.mem_cons_self))
                              have hI1qa : qa.1 ≠ I1 := Nat.ne_of_gt (hqa _ (List.mem_append_right _ (List.mem_cons_of_mem _ (List.mem_cons_of_mem _ List.mem_cons_self))))
                              have hI2qb : qb.1 ≠ I2 := Nat.ne_of_gt (hqb _ (List.mem_append_right _ List.mem_cons_self))
                              have hI1qb : qb.1 ≠ I1 := Nat.ne_of_gt (hqb _ (List.mem_append_right _ (List.mem_cons_of_mem _ (List.mem_cons_of_mem _ List.mem_cons_self))))
                              have hemp : Str.ofString "" = Str.empty := by decide +kernel
                              k_steps
                              (rename News _ _ _ _ => Nz)
                              (rename Fr _ _ _ _ => Fz)
                              refine Turn.next ((D3, lst xs) :: (I1, oI1) :: (rowsLed ((rs9.set (1 + i) (r1.push qa)).set k (r2.push qb)) ++ base)) Fz Nz ?_ ?_ trivial ⟨hbb, ?_, _, rfl, ⟨?_, hrokA.set hr2' qb, ?_, ?_⟩, led_ne hr2' (led_ne hr1 hI9 hI1qa) hI1qb⟩
                              · intro q hq
                                rcases List.mem_cons.mp hq with rfl | hq
                                · exact List.mem_append_right _ List.mem_cons_self
                                · rcases List.mem_cons.mp hq with rfl | hq
                                  · exact List.mem_append_right _ (List.mem_cons_of_mem _ List.mem_cons_self)
                                  · rcases List.mem_cons.mp hq with rfl | hq
                                    · exact List.mem_append_right _ (List.mem_cons_of_mem _ (List.mem_cons_of_mem _ List.mem_cons_self))
                                    · rcases List.mem_append.mp hq with hq | hq
                                      · exact List.mem_append_left _ hq
                                      · exact List.mem_append_right _ (List.mem_cons_of_mem _ (List.mem_cons_of_mem _ (List.mem_cons_of_mem _ hq)))
                              · refine List.forall_mem_cons.mpr ⟨offI2 _ List.mem_cons_self, List.forall_mem_cons.mpr ⟨offI2 _ (List.mem_cons_of_mem _ List.mem_cons_self), fun q hq => ?_⟩⟩
                                rcases List.mem_append.mp hq with hq | hq
                                · exact led_ne hr2' (led_ne hr1 (fun q hq => offI2 q (List.mem_cons_of_mem _ (List.mem_cons_of_mem _ (List.mem_append_left _ hq)))) hI2qa) hI2qb q hq
                                · exact offI2 q (List.mem_cons_of_mem _ (List.mem_cons_of_mem _ (List.mem_append_right _ hq)))
                              · intro z hz
                                have hh : z ≠ Str.ofString "other" ∧ z ≠ Str.ofString "tied" := by refine ⟨?_, ?_⟩ <;> (rintro rfl; exact absurd hz (by decide +kernel))
                                simp only [hz, hh, Bool.false_eq_true, if_false]
                              · rw [set_x hr2', set_x hr1]; exact hxs9
                              · rw [tin_s, tstep, if_pos (by rw [htie]; simp only [*]; decide), cont_set (cont_set hcont9 hr1 qa) hr2' qb, qa1, qa2, qb1, qb2, hemp]
                              · refine set_all hr2' (set_all hr1 (fun r hr => ⟨(hlt9 r hr).1, (hlt9 r hr).2.1, Nat.le_trans (hlt9 r hr).2.2 hkk⟩) fun h => ⟨h.1, h.2.1, ?_⟩) fun h => ⟨h.1, h.2.1, ?_⟩
                                · show (r1.prs ++ [qa]).length ≤ _
                                  rw [List.length_append, List.length_singleton]; exact tb_p (hlt9 r1 hr1m).2.2
                                · show (r2.prs ++ [qb]).length ≤ _
                                  rw [List.length_append, List.length_singleton]; exact tb_p (hlt9 r2 hr2m).2.2
                      · (rename News _ _ _ _ => Nx)
                        (rename Fr _ _ _ _ => Fx)
                        unfold Halt
                        refine Turn.next ((D3, lst xs) :: (I1, oI1) :: (rowsLed rs9 ++ base)) Fx Nx (fun _ h => h) offI2 trivial ⟨hb9, ?_, rs9, rfl, ⟨hxs9, hrok9, ?_, fun r hr => ⟨(hlt9 r hr).1, (hlt9 r hr).2.1, Nat.le_trans (hlt9 r hr).2.2 hkk⟩⟩, hI9⟩
                        · intro z hz
                          have hh : z ≠ Str.ofString "other" ∧ z ≠ Str.ofString "tied" := by refine ⟨?_, ?_⟩ <;> (rintro rfl; exact absurd hz (by decide +kernel))
                          simp only [hz, hh, Bool.false_eq_true, if_false]
                        · rw [tin_s, tstep, if_neg (by rw [htie]; simp only [*]; decide)]; exact hcont9
                  · rintro h9 tk9 g9 m' nw ⟨hb9, hm9, rs9, rfl, ⟨hxs9, hrok9, hcont9, hlt9⟩, hI9⟩ F9 N9
                    rw [off_eq tvars2 hm9] at F9
                    k_steps
                    refine Turn.next ((D3, lst xs) :: (rowsLed rs9 ++ base)) F9 N9 ?_ ?_ trivial ⟨hb9, ?_, rs9, rfl, hxs9, hrok9, by rw [tout_s]; exact hcont9, fun r hr => ⟨(hlt9 r hr).1, (hlt9 r hr).2.1, Nat.le_trans (hlt9 r hr).2.2 (tb_o _ (Nat.lt_succ_of_le h55) i hi)⟩⟩
                    · intro q hq
                      rcases List.mem_cons.mp hq with rfl | hq
                      · exact List.mem_cons_of_mem _ List.mem_cons_self
                      · rcases List.mem_cons.mp hq with rfl | hq
                        · exact List.mem_cons_self
                        · exact List.mem_cons_of_mem _ (List.mem_cons_of_mem _ hq)
                    · refine List.forall_mem_cons.mpr ⟨offI1 _ List.mem_cons_self, fun q hq => ?_⟩
                      rcases List.mem_append.mp hq with hq | hq
                      · exact hI9 q hq
                      · exact offI1 q (List.mem_cons_of_mem _ (List.mem_append_right _ hq))
                    · intro z hz
                      have hh : z ≠ Str.ofString "one" ∧ z ≠ Str.ofString "other" ∧ z ≠ Str.ofString "tied" := by refine ⟨?_, ?_, ?_⟩ <;> (rintro rfl; exact absurd hz (by decide +kernel))
                      have h3 : tvars2.contains z = false := by simp [tvars2, hh]
                      simp only [h3, hh, Bool.false_eq_true, if_false]
              · rintro h9 tk9 g9 m' nw ⟨hb9, hm9, rs9, rfl, hxs9, hrok9, hcont9, hlt9⟩ F9 N9
                rw [off_eq tvars hm9] at F9
                k_steps
                have hbr : ∀ q ∈ rest, q ∈ base := fun q hq => by rw [← hbase]; exact List.mem_cons_of_mem _ (List.mem_cons_of_mem _ (List.mem_cons_of_mem _ hq))
                (rename News _ _ _ _ => Nz)
                refine hret _ ((D3, lst xs) :: (rowsLed rs9 ++ rest)) _ _ _ hb9 (by assumption) (sub_news Nz ?_) ⟨D3, rs9, _, rfl, by rw [hxs9], hrok9, hcont9, fun q hq => lt5 q (hbase ▸ hbr q hq), fun r hr q hq => (hlt9 r hr).1 q (hbr q hq)⟩
                intro q hq
                rcases List.mem_cons.mp hq with rfl | hq
                · exact List.mem_cons_self
                · rcases List.mem_append.mp hq with hq | hq
                  · exact List.mem_cons_of_mem _ (List.mem_append_left _ hq)
                  · exact List.mem_cons_of_mem _ (List.mem_append_right _ (hbr q hq))
end Mine

-- FOdd
theorem Mine.gap_FOdd : True ∧ True := by w_top off; walk1 <;> trivial
namespace Mine
open PySem PySem.W PySem.Calls PyProof.Rows
open PyProof.Rows.LCg (NsObj lst)
set_option maxRecDepth 100000

local macro_rules | `(tactic| walk_at "call builtin:len") => `(tactic| ((with_reducible show wpAny _ _ (call (Value.builtin "len") _) _ _ _); refine Halt.of ?_))
local macro_rules | `(tactic| walk_at "subscriptTail") => `(tactic| ((with_reducible show wpAny _ _ (subscriptTail _ _ (Value.ref _) (Value.int _ _)) _ _ _); refine Halt.of ?_))
def lenC (c : List (Str × Str)) : Nat := (c.map (fun p => p.1.length + p.2.length)).sum
/-- the odd ones among the first k -/
def oddL (cs : List (List (Str × Str))) (k : Nat) : List Int := ((List.range k).filter (fun i => decide (lenC (cs.getD i []) % 2 = 1))).map (fun i => ((2 ^ i : Nat) : Int))
theorem oddL_s (cs : List (List (Str × Str))) (k : Nat) : oddL cs (k + 1) = oddL cs k ++ (if lenC (cs.getD k []) % 2 = 1 then [((2 ^ k : Nat) : Int)] else []) := by
  unfold oddL
  rw [List.range_succ, List.filter_append, List.map_append]
  by_cases h : lenC (cs.getD k []) % 2 = 1 <;> simp only [List.filter_cons, List.filter_nil, h, decide_true, decide_false, if_true, if_false, Bool.false_eq_true, List.map_cons, List.map_nil]
theorem preSum_len (prs : List Pr) : ∀ k, k ≤ prs.length → preSum (lenAt prs) k = ((((prs.take k).map (fun q => q.2.1.length + q.2.2.2.1.length)).sum : Nat) : Int)
  | 0, _ => by simp [preSum]
  | k + 1, h => by
    have ih := preSum_len prs k (by omega)
    show preSum (lenAt prs) k + lenAt prs k = _
    have hk : k < prs.length := by omega
    rw [ih, List.take_add_one, List.getElem?_eq_getElem hk, List.map_append, List.sum_append, Int.natCast_add]
    congr 1
    simp only [lenAt, List.getElem?_eq_getElem hk, Option.map_some, Option.getD_some, Option.toList_some, List.map_cons, List.map_nil, List.sum_cons, List.sum_nil, Nat.add_zero]
theorem preSum_cont (r : Rw) : preSum (lenAt r.prs) r.prs.length = (lenC r.cont : Int) := by
  rw [preSum_len _ _ (Nat.le_refl _), List.take_length]
  unfold lenC Rw.cont
  rw [List.map_map]; rfl
set_option maxHeartbeats 4000000 in
theorem odd_spec (w : World) (p : Program) (loose : List Str) (mean : ExcName → Option Value) (mg mb : Str → Option Value) (la : Addr) (rs : List Rw) (kl : Nat) (ps : Array Value) (rest : List (Addr × Obj)) (ht : TriplesOk ps.toList) (hla : (la, listOf (rs.map (fun r : Rw => Value.ref r.x)).toArray kl) ∈ rest) (hrs : ∀ q ∈ rowsLed rs, q ∈ rest) (h70 : ∀ p ∈ rest, p.1 ≠ 70) (hrok : RowsOk w rs)
    (hsh : ∀ r ∈ rs, r.prs.length ≤ 100 ∧ ∀ q ∈ r.prs, q.2.1.length ≤ 1000 ∧ q.2.2.2.1.length ≤ 1000) (h5 : rs.length ≤ 5) :
    Spec2 w p loose mean mg mb 4 171 ((70, tabObj ps) :: rest) [.ref la] (fun r nw => ∃ ps' t, TriplesOk ps'.toList ∧ nw = (70, tabObj ps') :: rest ∧ r = .int (oddL (rs.map Rw.cont) rs.length).sum t) := by
  unfold Spec2
  k_fill
  intro dp un gd cn cs a ccd cl outer A₀ base h₀ L m s Q E B F X N T hbare hk hdp hun hret
  have hdp' : dp + 1 < recursionLimit := by omega
  have kMark : KstMark := kstMark
  refine wpAny_call ?_
  k_dflt (refine' code_defC ?k1 ?k2 ?k3 ?k4 ?k5 ?kA ?kF ?kK ?k6 ?k7 ?k8 ?k9 ?kB ?kD ?_ ?c2 ?c3 ?c4; (case kA => exact rfl); (case kF => exact rfl); (case kK => assumption); (case k1 => k_asm); (case k2 => k_asm); (case k3 => k_asm); (case k4 => k_asm); (case k5 => k_asm); (case k6 => k_is); (case k7 => k_is); (case k8 => (first | exact room_of (dp := dp) hdp (by decide) | exact room_of2 (dp := dp) hdp (by decide) | ktr_room)); (case k9 => exact BindsTo.of_eq rfl); (case kB => exact rfl); (case kD => decide +kernel); (case c2 => exact rfl); (case c3 => exact rfl); (case c4 => exact rfl); k_whole)
  intro g' L' h' tk' cells' FG' F' N' Y' B' X' T' l1
  (try k_lt l1)
  have hY := CellsAre.one Y'; obtain ⟨co1, hE', cd1⟩ := hY; subst hE'; clear Y'
  (try simp only [List.cons_append, List.nil_append] at N')
  (try dsimp only)
  (try k_lift B')
  (try k_fold)
  (try refine wpAny_noRaise ?_)
  replace F' : Fr g' L' h' (fun _ => none) := F'
  replace cd1 : co1.data = .cell (some (.ref la)) := cd1
  k_steps
  refine comp_eval F' (by with_unfolding_all rfl) (by decide) (by rfl) (by decide) (by rfl) ?_
  k_steps
  have inR : ∀ q ∈ rest, q ∈ (L' + 1, co1) :: (70, tabObj ps) :: rest := fun q hq => List.mem_cons_of_mem _ (List.mem_cons_of_mem _ hq)
  refine kst_len N' (us := rs.map (fun r : Rw => Value.ref r.x)) (inR _ hla) (by rw [List.length_map]) (by omega) ?_
  k_steps
  unfold Halt
  rename_i hR F2 N2 hk2
  refine ⟨_, _, _, _, fun i ys nw g => AllBare g ∧ ∃ ps', TriplesOk ps'.toList ∧ nw = (L' + 1, co1) :: (70, tabObj ps') :: rest ∧ IntsAre ys (oddL (rs.map Rw.cont) i), F2, N2, ?_, src_range (n := rs.length) rfl F2 N2 hR ?_ ?_, trivial, ⟨hbare, ps, ht, rfl, .nil⟩, CTurn.test ?_, ?_⟩
  · rw [sizeLine_eq]; omega
  · exact small_one (by omega) (by omega) (by omega) (by omega)
  · rw [rangeSize_nat]; congr 1
  · rintro i ys nw v I oI C oC D3 m₂ h5 tk5 g5 E' hi hyl ⟨hb5, ps5, ht5, rfl, hys⟩ hS ⟨tv, rfl⟩ hoC hm2 F5 N5 off5 ne5 lt5
    simp only [Int.zero_add] at hm2
    have bi : (i : Int) < 5 := by omega
    obtain ⟨r1, hr1⟩ : ∃ r, rs[i]? = some r := ⟨_, List.getElem?_eq_getElem hi⟩
    have hr1m := List.mem_of_getElem? hr1
    have hx1 : (rs.map (fun r : Rw => Value.ref r.x))[i]? = some (.ref r1.x) := by rw [List.getElem?_map, hr1]; rfl
    have in5 : ∀ q ∈ rest, q ∈ (I, oI) :: (C, oC) :: (D3, lst ys) :: (L' + 1, co1) :: (70, tabObj ps5) :: rest := fun q hq => List.mem_cons_of_mem _ (List.mem_cons_of_mem _ (List.mem_cons_of_mem _ (List.mem_cons_of_mem _ (List.mem_cons_of_mem _ hq))))
    k_steps
    refine sub_item (News.isList N5 (in5 _ hla)) (i := i) rfl (by omega) hx1 ?_
    k_steps
    have hl75 : findIn (hd.heap_1 w.params) (.ref 107) "__len__" = some (some (.ref 75)) := by k_is
    have hf75 : isFn (hd.heap_1 w.params) (.ref 75) = true := by k_is
    obtain ⟨tz, hodz⟩ := (hrok.od r1 hr1m).2.2
    refine len_K F5 X' (acc_inst (N5 _ (in5 _ (hrs _ (led_x hr1m)))).1 (N5 _ (in5 _ (hrs _ (led_dx hr1m)))).1) hl75 hf75 ?_
    have o70 := off5 (70, tabObj ps5) (List.mem_cons_of_mem _ List.mem_cons_self)
    have l70 : (70 : Nat) < L' := l1.1
    have inT : ∀ q ∈ rowsLed rs, q ∈ (I, oI) :: (C, oC) :: (D3, lst ys) :: (L' + 1, co1) :: rest := fun q hq => List.mem_cons_of_mem _ (List.mem_cons_of_mem _ (List.mem_cons_of_mem _ (List.mem_cons_of_mem _ (hrs q hq))))
    refine len_spec w p loose mean mg mb r1.x r1.dx r1.prs r1.n r1.od tz ps5 ((I, oI) :: (C, oC) :: (D3, lst ys) :: (L' + 1, co1) :: rest) ht5 (inT _ (led_x hr1m)) (inT _ (led_dx hr1m)) (fun q hq => inT _ (led_t hr1m q hq)) ?_ hodz (hsh r1 hr1m).2 _ _ _ _ _ _ _ _ _ _ _ _ _ _ _ _ _ B' F5 X' (sub_news N5 ?_) T' hb5 rfl (by (first | exact room_of (dp := dp) hdp (by decide) | exact room_of2 (dp := dp) hdp (by decide) | ktr_room)) (by (first | exact (units_of (un := un) (d := 4) (k := 3) (d' := 1) hun (by decide)) | exact (units_of (un := un) (d := 4) (k := 3) (d' := 2) hun (by decide)) | exact (units_of (un := un) (d := 4) (k := 3) (d' := 4) hun (by decide)) | exact (units_of (un := un) (d := 4) (k := 4) (d' := 1) hun (by decide)) | exact (units_of (un := un) (d := 4) (k := 4) (d' := 2) hun (by decide)) | exact (units_of (un := un) (d := 4) (k := 4) (d' := 4) hun (by decide)) | exact (units_at (un := un) (d := 4) (k := 3) (j := 64) hun (by decide)) | ktr_units)) ?_
    · exact List.forall_mem_cons.mpr ⟨Ne.symm o70.1, List.forall_mem_cons.mpr ⟨Ne.symm o70.2.1, List.forall_mem_cons.mpr ⟨Ne.symm o70.2.2, List.forall_mem_cons.mpr ⟨Nat.ne_of_gt (Nat.lt_succ_of_lt l70), h70⟩⟩⟩⟩
    · intro q hq
      rcases List.mem_cons.mp hq with rfl | hq
      · exact List.mem_cons_of_mem _ (List.mem_cons_of_mem _ (List.mem_cons_of_mem _ (List.mem_cons_of_mem _ List.mem_cons_self)))
      · rcases List.mem_cons.mp hq with rfl | hq
        · exact List.mem_cons_self
        · rcases List.mem_cons.mp hq with rfl | hq
          · exact List.mem_cons_of_mem _ List.mem_cons_self
          · rcases List.mem_cons.mp hq with rfl | hq
            · exact List.mem_cons_of_mem _ (List.mem_cons_of_mem _ List.mem_cons_self)
            · rcases List.mem_cons.mp hq with rfl | hq
              · exact List.mem_cons_of_mem _ (List.mem_cons_of_mem _ (List.mem_cons_of_mem _ List.mem_cons_self))
              · exact in5 q hq
    rintro _ _ h6 tk6 g6 hb6 F6 N6 ⟨ps6, t6, ht6, rfl, rfl⟩
    rw [preSum_cont]
    have hlc : lenC r1.cont ≤ 200000 := by
      have e1 : ∀ l : List Pr, (∀ q ∈ l, q.2.1.length ≤ 1000 ∧ q.2.2.2.1.length ≤ 1000) → ((l.map (fun q => (q.2.1, q.2.2.2.1))).map (fun p : Str × Str => p.1.length + p.2.length)).sum ≤ 2000 * l.length := by
        intro l
        induction l with
        | nil => intro _; simp
        | cons q l ih =>
          intro h
          have h1 := h q List.mem_cons_self
          have h2 := ih fun y hy => h y (List.mem_cons_of_mem _ hy)
          simp only [List.map_cons, List.sum_cons, List.length_cons]; omega
      have := e1 r1.prs (hsh r1 hr1m).2
      have h100 := (hsh r1 hr1m).1
      unfold lenC Rw.cont
      omega
    refine ⟨⟨by omega, by omega⟩, ?_⟩
    have hci : (rs.map Rw.cont).getD i [] = r1.cont := by rw [List.getD_eq_getElem?_getD, List.getElem?_map, hr1]; rfl
    have hfm : ((lenC r1.cont : Nat) : Int).fmod 2 = ((lenC r1.cont % 2 : Nat) : Int) := by rw [Int.fmod_eq_emod_of_nonneg _ (by decide)]; omega
    have e2 : (2 : Int) ^ ((i : Int)).toNat = ((2 ^ i : Nat) : Int) := by simp
    have sub6 : ∀ q ∈ (I, oI) :: (C, oC) :: (D3, lst ys) :: (L' + 1, co1) :: (70, tabObj ps6) :: rest, q ∈ (70, tabObj ps6) :: (I, oI) :: (C, oC) :: (D3, lst ys) :: (L' + 1, co1) :: rest := by
      intro q hq
      rcases List.mem_cons.mp hq with rfl | hq
      · exact List.mem_cons_of_mem _ List.mem_cons_self
      · rcases List.mem_cons.mp hq with rfl | hq
        · exact List.mem_cons_of_mem _ (List.mem_cons_of_mem _ List.mem_cons_self)
        · rcases List.mem_cons.mp hq with rfl | hq
          · exact List.mem_cons_of_mem _ (List.mem_cons_of_mem _ (List.mem_cons_of_mem _ List.mem_cons_self))
          · rcases List.mem_cons.mp hq with rfl | hq
            · exact List.mem_cons_of_mem _ (List.mem_cons_of_mem _ (List.mem_cons_of_mem _ (List.mem_cons_of_mem _ List.mem_cons_self)))
            · rcases List.mem_cons.mp hq with rfl | hq
              · exact List.mem_cons_self
              · exact List.mem_cons_of_mem _ (List.mem_cons_of_mem _ (List.mem_cons_of_mem _ (List.mem_cons_of_mem _ (List.mem_cons_of_mem _ hq))))
    have off6 : Off I C D3 ((L' + 1, co1) :: (70, tabObj ps6) :: rest) := List.forall_mem_cons.mpr ⟨off5 _ List.mem_cons_self, List.forall_mem_cons.mpr ⟨o70, fun q hq => off5 q (List.mem_cons_of_mem _ (List.mem_cons_of_mem _ hq))⟩⟩
    k_steps
    · refine CEnd.intro F6 N6 ((L' + 1, co1) :: (70, tabObj ps6) :: rest) sub6 off6 trivial ⟨hb6, ps6, ht6, rfl, ?_⟩
      rw [oddL_s, hci, if_pos (by omega), e2]
      exact ints_snoc hys _ _
    · refine CEnd.intro F6 N6 ((L' + 1, co1) :: (70, tabObj ps6) :: rest) sub6 off6 trivial ⟨hb6, ps6, ht6, rfl, ?_⟩
      rw [oddL_s, hci, if_neg (by omega), List.append_nil]
      exact hys
  · rintro D3 h5 tk5 g5 ys nw F5 N5 off5 lt5 ⟨hb5, ps5, ht5, rfl, hys⟩ hS
    k_steps
    (rename News _ _ _ _ => Nz)
    exact hret _ ((70, tabObj ps5) :: rest) _ _ _ hb5 (by assumption) (sub_news Nz fun q hq => List.mem_cons_of_mem _ (List.mem_cons_of_mem _ hq)) ⟨ps5, _, ht5, rfl, rfl⟩
end Mine
end

-- SegFor
theorem Mine.gap_SegFor : True ∧ True := by w_top off; walk1 <;> trivial
namespace Mine
open PySem PySem.W PySem.Calls PyProof.Rows
/-- nothing is raised here -/
abbrev noE : Value → Shared → Prop := fun _ _ => False
/-- what comes of a run that a frame made for itself -/
abbrev ownEnd (env : Env) (r : Result) : Sem Flow := (match r with | .ok f => (.pure f : Sem Flow) | .error e => .raise e).onRaise fun (x : Value) => do
        if (← field x 1) == Value.none then unsupported "frame.own-activation:exception-without-traceback"
        setFlight x env.frame
section
variable {prog : Program} {w : World} {A : Around} {R : GenEnd} {Y : Protocol} {n : Nat} {s₀ : Shared} {c : Code} {fs : List Frame} {s : Shared} {env : Env} {K : Flow → Sem Fin} {H : Value → Sem Fin} {gd : Bool → Bool} {lv : List Value → List Value}
theorem sg_bind {α β : Type} {m : Sem α} {K : α → Sem β} {K' : β → Sem Fin} {H' : Value → Sem Fin} {gd lv}
    (h : wpAny (model prog w) (A.over c fs) m (fun a s' => Seg (model prog w) A R Y n s₀ c ((K a).wrap K' H' gd lv) fs s') noE s) : Seg (model prog w) A R Y n s₀ c ((m >>= K).wrap K' H' gd lv) fs s :=
  seg_bind_wrap (wpAny_mono h (fun _ _ x => x) fun _ _ x => x.elim)
/-- a statement without a yield -/
theorem sg_stmt {st : Stmt} {rest : List Stmt}
    (h : wpAny (model prog w) (A.over c fs) (exec st env) (fun f s' => Seg (model prog w) A R Y n s₀ c (match f with | .next => (execs rest env).wrap K H gd lv | f => K f) fs s') noE s) :
    Seg (model prog w) A R Y n s₀ c ((execs (st :: rest) env).wrap K H gd lv) fs s :=
  seg_execs_cons (seg_wrap (wpAny_mono h (fun _ _ x => x) fun _ _ x => x.elim))
theorem sg_For {target iter : Expr} {body orelse : List Stmt} {pos : Pos}
    (h : wpAny (model prog w) (A.over c fs) (eval iter env) (fun x s₁ => wpAny (model prog w) (A.over c fs) (pyIter x) (fun it s₂ => ∀ p, Seg (model prog w) A R Y n s₀ (.forLoop target it body orelse env) ((model prog w).den (.forLoop target it body orelse env))
      (.ret (fun r => (ownEnd env r).wrap K H gd lv) none (gd false) (lv []) c p [] :: fs) s₂) noE s₁) noE s)
    (hs : ∀ x, foldedSetIterable iter env x = pure x := by intro _; rfl) :
    Seg (model prog w) A R Y n s₀ c ((exec (.For target iter body orelse pos) env).wrap K H gd lv) fs s := by
  rw [exec_For]
  refine sg_bind (wpAny_standAt (sg_bind (wpAny_mono h (fun x s₁ h₁ => sg_bind (wpAny_of_eq (hs x) (sg_bind (wpAny_standAt (sg_bind (wpAny_holding (wpAny_mono h₁ (fun it s₂ h₂ => ?_) fun _ _ z => z))))))) fun _ _ z => z)))
  exact seg_call h₂
theorem sg_If {test : Expr} {body orelse : List Stmt} {pos : Pos}
    (h : wpAny (model prog w) (A.over c fs) (isTrue test env (eval test env)) (fun b s' => Seg (model prog w) A R Y n s₀ c ((if b = true then execs body env else execs orelse env).wrap K H gd lv) fs s') noE s) :
    Seg (model prog w) A R Y n s₀ c ((exec (.If test body orelse pos) env).wrap K H gd lv) fs s := by
  rw [exec_If]
  exact sg_bind (wpAny_standAt (sg_bind h))
/-- where a turn's body ends -/
abbrev turnK (target : Expr) (it : Value) (body orelse : List Stmt) (env : Env) (f : Flow) : Sem Fin := match f with
  | .next | .cont => .pure (.again (.forLoop target it body orelse env))
  | .brk => .pure (.done .next)
  | .ret v => .pure (.done (.ret v))
abbrev turnH (env : Env) (e : Value) : Sem Fin := (do noteFrame e env; theTreesLotGoes e : Sem Unit).wrap (fun _ => .raise e) .raise id id
theorem sg_turn {target : Expr} {it : Value} {body orelse : List Stmt}
    (h : wpAny (model prog w) (A.over (.forLoop target it body orelse env) fs) (pyNext it) (fun r s₁ => match r with
      | none => Seg (model prog w) A R Y n s₀ (.block orelse env) ((model prog w).den (.block orelse env)) fs s₁
      | some v => wpAny (model prog w) (A.over (.forLoop target it body orelse env) fs) (assign target env v) (fun _ s₂ =>
          Seg (model prog w) A R Y n s₀ (.forLoop target it body orelse env) ((execs body env).wrap (turnK target it body orelse env) (turnH env) id id) fs s₂) noE s₁) noE s)
    (ht : ∀ v, letOwnedTupleGo target it v = pure () := by intro _; rfl) :
    Seg (model prog w) A R Y n s₀ (.forLoop target it body orelse env) ((model prog w).den (.forLoop target it body orelse env)) fs s := by
  show Seg _ A R Y n s₀ _ ((forTurn target it body orelse env).onRaise (fun x => do noteFrame x env; theTreesLotGoes x)) fs s
  unfold forTurn
  rw [Sem.onRaise_eq_wrap]
  refine sg_bind (wpAny_standAt (sg_bind (wpAny_onRaise (wpAny_mono h (fun r s₁ h₁ => ?_) fun _ _ z => z.elim))))
  cases r with
  | none => exact seg_again rfl h₁
  | some v =>
    refine sg_bind (wpAny_of_eq (ht v) (sg_bind (wpAny_mono h₁ (fun _ s₂ h₂ => ?_) fun _ _ z => z)))
    rw [Sem.bind_eq_wrap', Sem.wrap_wrap]
    rw [Sem.wrap_congr (execs body env) _ _ (K' := turnK target it body orelse env) (H' := turnH env) (fun f => by cases f <;> rfl)
      (fun e => by first | exact Sem.bind_eq_wrap _ _ | (show (do noteFrame e env; theTreesLotGoes e : Sem Unit).bind (fun _ => .raise e) = _; rw [Sem.bind_eq_wrap]))]
    exact h₂
theorem sg_block_nil {k : Result → Sem Fin} {h g l c₁ p₁ kp} (hk : Seg (model prog w) A R Y n s₀ c₁ (k (.ok .next)) fs s) :
    Seg (model prog w) A R Y n s₀ (.block [] env) ((model prog w).den (.block [] env)) (.ret k h g l c₁ p₁ kp :: fs) s := by
  show Seg _ A R Y n s₀ _ (leafOf (.ok .next)) _ s
  exact seg_leaf (.ok .next) hk
end
end Mine

-- GenNext
theorem Mine.gap_GenNext : True ∧ True := by w_top off; walk1 <;> trivial
namespace Mine
open PySem PySem.W PySem.Calls PyProof.Rows
section
variable {prog : Program} {w : World} {A : Around} {E : Value → Shared → Prop} {s : Shared}
/-- one item of a generator; what is left of it keeps no clean-up -/
theorem gen_next {a : Addr} {g n : Nat} {gs : GenState} {P : Nat → Shared → Shared → Prop} {Y : Protocol} {Q : Option Value → Shared → Prop} (hh : A.handled = none)
    (hl : s.heap.NoLimit) (hroom : A.depth < recursionLimit) (hg : s.heap.IsGen a g) (hgs : s.gens[g]? = some gs)
    (hgo : gs.Goes (model prog w) A.in1 (fun n s₀ r s₁ => r = .ok (.ret .none) ∧ P n s₀ s₁) Y n (.send .none) (s.setGen g .running))
    (hY : ∀ v s₁ gs', gs'.bare = true → Y (n - 1) (s.setGen g .running) v s₁ (fun r' s'' => match n with
        | 0 => False
        | m + 1 => gs'.Goes (model prog w) A.in1 (fun n s₀ r s₁ => r = .ok (.ret .none) ∧ P n s₀ s₁) Y m r' s'') → Q (some v) (s₁.setGen g gs'))
    (hP : ∀ s₁, P n (s.setGen g .running) s₁ → ∀ h', (∀ b o, s₁.heap.get? b = some o → h'.get? b = some o) → Q none { s₁.setGen g .finished with heap := h' }) :
    wpAny (model prog w) A (pyNext (.ref a)) Q E s := by
  unfold pyNext
  refine wpAny_bind (wpAny_attempt (wpAny_callSpecial?_slot (name := Str.ofString "__next__") hg.typeIs slot_gen_next (wpAny_call_entry slot_gen_next hg.typeIs entry_gen_next ?_ (args_gen_next _))))
  show wpAny _ A.in1 (Builtin.Generator.genWake (.ref a) (.send .none)) _ _ s
  unfold Builtin.Generator.genWake
  refine wpAny_bind (wpAny_holding (wpAny_genNumber hg (wpAny_bind (wpAny_genState hgs ?_))))
  cases gs with
  | running => exact hgo.elim
  | finished => exact hgo.elim
  | _ =>
    refine wpAny_bind (wpAny_roomToWake hl hroom ?_)
    show wpAny _ A.in1 (.resume g (.send .none) [] _) _ _ s
    refine wpAny_resumeQ hgs hgo (fun x s₁ hx => ?_) (fun v s₁ gs' hb hv => wpAny_pure ⟨v, rfl, wpAny_pure (hY v s₁ gs' hb hv)⟩)
    obtain ⟨rfl, hp⟩ := hx
    show wpAny _ A.in1 (newExc (.type "StopIteration") [] >>= _) _ _ _
    refine wpAny_bind ?_
    simp only [newExc, newTuple]
    refine wpAny_bind (wpAny_newObj_type ?_ (by size_fits))
    refine wpAny_bind (m := firstArgMember _ _) (wpAny_of_eq (a := Value.none) (by first | rfl | (simp only [firstArgMember]; rfl)) ?_)
    refine wpAny_newObj_type ?_ (by size_fits)
    simp only [raiseNew]
    refine wpAny_bind (wpAny_bind (wpAny_handled ?_))
    rw [show A.in1.handled = none from hh]
    refine wpAny_throw ?_
    refine wpAny_bind (wpAny_isInstance (T := "StopIteration") (b := true) ⟨_, Heap.get?_push_size _ rfl, rfl⟩ isSubtype_stop ?_)
    exact wpAny_pure (hP s₁ hp _ fun b o hb => Heap.get?_push_of_some _ (Heap.get?_push_of_some _ hb))
end
end Mine

-- GI
theorem Mine.gap_GI : True ∧ True := by w_top off; walk1 <;> trivial
namespace Mine
open PySem PySem.W PySem.Calls PyProof.Rows
set_option maxRecDepth 100000
local macro_rules | `(tactic| walk_at "execs cons") => `(tactic| ((refine wpAny_execs_cons (gen_toks fun tk => hideQ fun _ _ => ?_)); (try dsimp only)))
local macro_rules | `(tactic| walk_at "Hid") => `(tactic| (refine unhide (by assumption) ?_))
local macro_rules | `(tactic| walk_at "execs nil") => `(tactic| ((refine wpAny_execs_nil ?_); (try dsimp only)))
local macro_rules | `(tactic| walk_at "pyIter ref") => `(tactic| ((with_reducible show wpAny _ _ (pyIter _) _ _ _); refine Halt.of ?_))
local macro_rules | `(tactic| walk_at "call builtin:len") => `(tactic| (k_here; (with_reducible show wpAny _ _ (call (Value.builtin "len") [Value.ref _]) _ _ _); k_dflt (refine' kst_len ?k1 ?k2 rfl ?k4 ?_; (case k1 => k_asm); (case k2 => exact List.mem_cons_self); (case k4 => omega); k_whole)))
local macro_rules | `(tactic| walk_at "call builtin:list.append") => `(tactic| (k_here; (with_reducible show wpAny _ _ (call (Value.builtin "list.append") [Value.ref _, _]) _ _ _); k_dflt (refine' append_K ?k1 ?k2 (Upd.head ?k3) ?_ ?k4; (case k1 => k_asm); (case k2 => k_asm); (case k3 => assumption); (case k4 => (simp only [List.size_toArray, sizeLine_eq]; omega)); k_whole); intro h' F' N'))
local macro_rules | `(tactic| walk_at "ite") => `(tactic| first | with_reducible refine ite_tt ?_ | with_reducible refine ite_ff ?_ | (with_reducible refine split_ine ?_ ?_ <;> intro _) | (with_reducible refine split_ieq ?_ ?_ <;> intro _) | with_reducible refine split_not ?_ | (refine split_dec ?_ ?_ <;> intro _) | (refine split_bool ?_ ?_ <;> intro _) | rw [if_pos True.intro] | rw [if_neg not_false])
local macro_rules | `(tactic| walk_at "InvPostN") => `(tactic| ((with_reducible show InvPostN _ _ _ _ _ _ _ _ _); refine Halt.of ?_))
local macro_rules | `(tactic| walk_at "eval ListComp") => `(tactic| ((with_reducible show wpAny _ _ (eval (Expr.ListComp _ _ _ _) _) _ _ _); refine Halt.of ?_))
local macro_rules | `(tactic| walk_at "exec Assign cons ListComp") => `(tactic| ((with_reducible show wpAny _ _ (exec (Stmt.Assign _ (Expr.ListComp _ _ _ _) _) _) _ _ _); refine Halt.of ?_))
local macro_rules | `(tactic| walk_at "CSrc") => `(tactic| ((with_reducible show CSrc _ _ _ _ _ _ _ _ _ _ _ _ _ _ _ _); refine Halt.of ?_))
local macro_rules | `(tactic| walk_at "CEnd") => `(tactic| ((with_reducible show CEnd _ _ _ _ _ _ _ _ _ _ _ _ _ _); refine Halt.of ?_))
local macro_rules | `(tactic| walk_at "Turn") => `(tactic| ((with_reducible show Turn _ _ _ _ _ _ _ _ _ _); refine Halt.of ?_))

local macro_rules | `(tactic| walk_at "exec For Name Call cons nil") => `(tactic| (with_unfolding_all refine For_to ?_))
local macro_rules | `(tactic| walk_at "exec For Name Name cons nil") => `(tactic| (with_unfolding_all refine For_to ?_))
local macro_rules | `(tactic| walk_at "exec For Name Call cons cons") => `(tactic| (with_unfolding_all refine For_to ?_))
local macro_rules | `(tactic| walk_at "exec For") => `(tactic| (with_unfolding_all refine For_to ?_))
def noFd : FuncData := fnOf Str.empty Str.empty ⟨[], [], none, [], [], none, []⟩ [] ⟨.function, [], false, false, []⟩ .none .none .none .none none .none .none
noncomputable def giFd (w : World) : FuncData := match (hd.heap_1 w.params).lookup 118 with
  | some ⟨_, _, .func fd, _⟩ => fd
  | _ => noFd
noncomputable def giStmts (w : World) : List Stmt := match (giFd w).body with
  | .stmts b => b
  | _ => []
noncomputable def giTarget (w : World) : Expr := match giStmts w with
  | [_, .For t _ _ _ _] => t
  | _ => .Constant .none 0 ⟨0, 0, 0, 0⟩
noncomputable def giBody (w : World) : List Stmt := match giStmts w with
  | [_, .For _ _ b _ _] => b
  | _ => []
noncomputable abbrev giEnv (w : World) (C : Addr) : Env := envOf (Str.ofString "_grouping_intervals") (giFd w).scope C 118 (.ref 117)
/-- what a run of the generator may change -/
def GSince (C J : Addr) (s₀ s : Shared) : Prop := ∃ h tk, s = { s₀ with heap := h, toks := tk } ∧ (∀ b o, b ≠ C → b ≠ J → s₀.heap.get? b = some o → h.get? b = some o) ∧ (∃ oC, h.get? C = some oC) ∧ ∃ oJ, h.get? J = some oJ
def GSinceW (C J : Addr) (s₀ s : Shared) : Prop := ∃ h tk, s = { s₀ with heap := h, toks := tk } ∧ ∀ b o, b ≠ C → b ≠ J → s₀.heap.get? b = some o → h.get? b = some o
theorem GSince.weak {C J : Addr} {s₀ s : Shared} (x : GSince C J s₀ s) : GSinceW C J s₀ s := let ⟨h, tk, e, k, _⟩ := x; ⟨h, tk, e, k⟩
theorem GSince.tok {C J : Addr} {s₀ s : Shared} (x : GSince C J s₀ s) (t : Nat) : GSince C J s₀ { s with toks := t } := by
  obtain ⟨h, tk, e, r⟩ := x
  subst e
  exact ⟨h, t, rfl, r⟩
def itemOf (k j : Nat) : Int := if j < k then ((j + 1 : Nat) : Int) else (k : Int)
def giY (C Kb a : Addr) (g' : Heap) (k : Nat) (more : Bool) : Protocol := fun m s₀ v s kap =>
  (m = 0 → more = true) ∧ (∃ t, v = .int (itemOf k (k - m)) t) ∧ ∃ J, Kb ≤ J ∧ GSince C J s₀ s ∧ (m = 0 ∨ ∀ s'' : Shared, (∀ b ∈ [C, J, a], ∀ o, s.heap.get? b = some o → s''.heap.get? b = some o) → (∀ b o, g'.get? b = some o → s''.heap.get? b = some o) → kap (.send .none) s'')
def giP (C Kb : Addr) (more : Bool) : Nat → Shared → Shared → Prop := fun m s₀ s => m = 1 ∧ more = false ∧ ∃ J, Kb ≤ J ∧ GSinceW C J s₀ s
abbrev giR (C Kb : Addr) (more : Bool) : GenEnd := fun m s₀ r s => r = .ok (.ret .none) ∧ giP C Kb more m s₀ s
/-- the sizes behind the plain ones -/
def Tail (xs : List Int) (k : Nat) (more : Bool) : Prop := (∀ i, i < k → xs[i]? = some ((i + 1 : Nat) : Int)) ∧ ((more = false ∧ (xs.length = k ∨ xs[k]? = some 127)) ∨ (more = true ∧ 1 ≤ k ∧ xs[k]? = some 0))
structure GSt (g' : Heap) (C J a : Addr) (us : List Value) (i : Nat) (m : Str → Option Value) (s₀ s : Shared) : Prop where
  ns : s.heap.Ns C m
  base : ∀ b o, g'.get? b = some o → s.heap.get? b = some o
  la : s.heap.IsList a us.toArray
  it : s.heap.IsListIter J a i
  since : GSince C J s₀ s
theorem ns_get {h : Heap} {C : Addr} {m : Str → Option Value} (x : h.Ns C m) : ∃ o, h.get? C = some o := let ⟨o, _, _, e, _⟩ := x; ⟨o, e⟩
theorem it_get {h : Heap} {J a : Addr} {i : Nat} (x : h.IsListIter J a i) : ∃ o, h.get? J = some o := let ⟨o, e, _⟩ := x; ⟨o, e⟩
theorem GSt.step {g' : Heap} {C J a : Addr} {us : List Value} {i i' : Nat} {m m' : Str → Option Value} {s₀ s : Shared} (K : GSt g' C J a us i m s₀ s) (hC : g'.get? C = none) (hJ : g'.get? J = none) (haC : a ≠ C) (haJ : a ≠ J) {h' : Heap} {tk : Nat}
    (hk : ∀ b o, b ≠ C → b ≠ J → s.heap.get? b = some o → h'.get? b = some o) (hn : h'.Ns C m') (hit : h'.IsListIter J a i') : GSt g' C J a us i' m' s₀ { s with heap := h', toks := tk } := by
  obtain ⟨h, tk₀, e, k₀, _, _⟩ := K.since
  subst e
  have K1 := K.base
  exact ⟨hn, fun b o e => hk b o (fun q => by rw [q, hC] at e; cases e) (fun q => by rw [q, hJ] at e; cases e) (K1 b o e), K.la.at fun o e => hk a o haC haJ e, hit,
    h', tk, rfl, fun b o h1 h2 e => hk b o h1 h2 (k₀ b o h1 h2 e), ns_get hn, it_get hit⟩
theorem GSt.wake {g' : Heap} {C J a : Addr} {us : List Value} {i : Nat} {m : Str → Option Value} {s₀ s s'' : Shared} (K : GSt g' C J a us i m s₀ s) (hk : ∀ b ∈ [C, J, a], ∀ o, s.heap.get? b = some o → s''.heap.get? b = some o) (hb : ∀ b o, g'.get? b = some o → s''.heap.get? b = some o) : GSt g' C J a us i m s'' s'' := by
  have n1 := K.ns.at' fun o e => hk C List.mem_cons_self o e
  have n2 := K.it.at fun o e => hk J (List.mem_cons_of_mem _ List.mem_cons_self) o e
  exact ⟨n1, hb, K.la.at fun o e => hk a (List.mem_cons_of_mem _ (List.mem_cons_of_mem _ List.mem_cons_self)) o e, n2,
    s''.heap, s''.toks, rfl, fun _ _ _ _ e => e, ns_get n1, it_get n2⟩
section
variable {w : World} {A : Around} {p : Program} {loose : List Str} {mean : ExcName → Option Value} {mg mb : Str → Option Value}
theorem kf_start9 (w : World) : PySem.Challenge.rw_zd0009_01 = PySem.Challenge.rw_zd0009_01 → findIn (hd.heap_1 w.params) (.ref 107) "__getattr__" = some none := by k_fill; intro _; k_is
theorem gi_char (w : World) : ∃ t, nsIn (hd.heap_1 w.params) mainGlobals (Str.ofString "CHAR_MAX") = some (some (.int 127 t)) := ⟨_, by k_is⟩
theorem one_mod : True := trivial
/-- a name of the generator's own -/
theorem gi_ld {C : Addr} {m : Str → Option Value} {x : Str} {pos : Pos} {v : Value} {s : Shared} {Q : Value → Shared → Prop} {E : Value → Shared → Prop} {A' : Around} {M : Model} (hn : s.heap.Ns C m) (hv : m x = some v) (h : Q v s)
    (hk : (giFd w).scope.kind = .function) (hl : (giEnv w C).kindOf x = some .local) (hd : (x == ("__debug__" : Str)) = false) : wpAny M A' (eval (.Name x pos) (giEnv w C)) Q E s := wpAny_Name (wpAny_loadName_local hk hl hn hv h) hd
theorem gi_st {C : Addr} {m : Str → Option Value} {x : Str} {v : Value} {s : Shared} {Q : Unit → Shared → Prop} {E : Value → Shared → Prop} {A' : Around} {M : Model} (hn : s.heap.Ns C m)
    (h : ∀ h', h'.Ns C (fun y => if y = x then some v else m y) → Heap.SameBut C s.heap h' → Q () { s with heap := h', toks := s.toks + 1 }) (hl : (giEnv w C).kindOf x = some .local) (hp : ((giEnv w C).scope.kind == .class || ((giEnv w C).scope.kind == .module && (giEnv w C).locals != (giEnv w C).globals)) = false) : wpAny M A' (storeName (giEnv w C) x v) Q E s :=
  wpAny_storeName_local hl hn h hp
theorem gi_ne127 {i k : Nat} (h : i < k) (h4 : k ≤ 4) : ¬ (((i + 1 : Nat) : Int) = 127) := by omega
theorem gi_ne0 (i : Nat) : ¬ (((i + 1 : Nat) : Int) = 0) := by omega
set_option maxHeartbeats 4000000 in
theorem gi_turn {g' : Heap} {C J Kb a : Addr} {us : List Value} {xs : List Int} {k : Nat} {more : Bool} {c₁ : Code} {p₁ : Pos} {kf : Result → Sem Fin} (hh : A.handled = none) (X' : (hd.heap_1 w.params).In g') (T' : Top p loose mean mg mb g')
    (hu : IntsAre us xs) (ht : Tail xs k more) (hk : k ≤ 4) (hJC : J ≠ C) (haJ : a ≠ J) (haC : a ≠ C) (hKJ : Kb ≤ J) (hJ0 : g'.get? J = none) (hC0 : g'.get? C = none)
    (hend : ∀ s₀ s (f : Flow), (f = .next ∨ f = .ret .none) → giP C Kb more 1 s₀ s → Seg (model PySem.Challenge.rw_zd0009_01.row.prog w) A (giR C Kb more) (giY C Kb a g' k more) 1 s₀ c₁ (kf (.ok f)) [] s) :
    ∀ (d i : Nat) (s₀ s : Shared) (m : Str → Option Value), i + d = k → GSt g' C J a us i m s₀ s → ((i = 0 → m (Str.ofString "last_interval") = some .none) ∧ (0 < i → ∃ t, m (Str.ofString "last_interval") = some (.int (i : Int) t))) →
      Seg (model PySem.Challenge.rw_zd0009_01.row.prog w) A (giR C Kb more) (giY C Kb a g' k more) (k + 1 - i) s₀ (.forLoop (giTarget w) (.ref J) (giBody w) [] (giEnv w C))
        ((model PySem.Challenge.rw_zd0009_01.row.prog w).den (.forLoop (giTarget w) (.ref J) (giBody w) [] (giEnv w C))) [.ret kf none false [] c₁ p₁ []] s := by
  have hh' : (A.over (.forLoop (giTarget w) (.ref J) (giBody w) [] (giEnv w C)) [.ret kf none false [] c₁ p₁ []]).handled = none := hh
  have W := Walks.list (prog := PySem.Challenge.rw_zd0009_01.row.prog) (w := w) hh' J a haJ us.toArray
  have hsz : us.toArray.size = xs.length := by rw [List.size_toArray, hu.length]
  obtain ⟨tch, hch⟩ := gi_char w
  have kG : ∀ {pos : Pos} {s : Shared} {Q : Value → Shared → Prop} {E : Value → Shared → Prop} {A' : Around}, (∀ b o, g'.get? b = some o → s.heap.get? b = some o) → Q (.int 127 tch) s → wpAny (model PySem.Challenge.rw_zd0009_01.row.prog w) A' (eval (.Name (Str.ofString "CHAR_MAX") pos) (giEnv w C)) Q E s := fun hb q =>
    Name_function_global (env := giEnv w C) rfl rfl (loadGlobal_global (T'.g.keeps hb) (mg_of X' T'.g hch) q) (by decide +kernel)
  have one : ∀ i s₀ s m x, xs[i]? = some x → GSt g' C J a us i m s₀ s →
      (∀ s₂ t, GSt g' C J a us (i + 1) (fun y => if y = Str.ofString "interval" then some (.int x t) else m y) s₀ s₂ →
        Seg (model PySem.Challenge.rw_zd0009_01.row.prog w) A (giR C Kb more) (giY C Kb a g' k more) (k + 1 - i) s₀ (.forLoop (giTarget w) (.ref J) (giBody w) [] (giEnv w C))
          ((execs (giBody w) (giEnv w C)).wrap (turnK (giTarget w) (.ref J) (giBody w) [] (giEnv w C)) (turnH (giEnv w C)) id id) [.ret kf none false [] c₁ p₁ []] s₂) →
      Seg (model PySem.Challenge.rw_zd0009_01.row.prog w) A (giR C Kb more) (giY C Kb a g' k more) (k + 1 - i) s₀ (.forLoop (giTarget w) (.ref J) (giBody w) [] (giEnv w C))
        ((model PySem.Challenge.rw_zd0009_01.row.prog w).den (.forLoop (giTarget w) (.ref J) (giBody w) [] (giEnv w C))) [.ret kf none false [] c₁ p₁ []] s := by
    intro i s₀ s m x hx K next
    have hi : i < us.toArray.size := by rw [hsz]; exact (List.getElem?_eq_some_iff.mp hx).1
    refine sg_turn (W.item i s _ _ hi ⟨K.it, K.la⟩ fun v h' tk hP st' hk => ?_) (by intro _; rfl)
    obtain ⟨t, ht'⟩ := hu.get i x hx
    have hv : v = .int x t := by
      have := hP
      rw [List.getElem?_toArray, ht'] at this
      exact (Option.some.inj this).symm
    subst hv
    have K1 : GSt g' C J a us (i + 1) m s₀ { s with heap := h', toks := tk } := K.step hC0 hJ0 haC haJ (fun b o _ h2 e => hk b o (by simpa using h2) e) (K.ns.at' fun o e => hk C o (by simpa using Ne.symm hJC) e) st'.1
    refine wpAny_assign_Name (gi_st K1.ns (fun h₂ n₂ hs₂ => ?_) rfl rfl)
    exact next _ t (K1.step hC0 hJ0 haC haJ (fun b o h1 _ e => hs₂.extBut b o h1 e) n₂ (K1.it.at fun o e => hs₂.extBut J o hJC e))
  have vInt : ∀ (m : Str → Option Value) x t, (if Str.ofString "interval" = Str.ofString "interval" then some (Value.int x t) else m (Str.ofString "interval")) = some (.int x t) := fun m x t => if_pos rfl
  have vLast : ∀ (m : Str → Option Value) x t, (if Str.ofString "last_interval" = Str.ofString "interval" then some (Value.int x t) else m (Str.ofString "last_interval")) = m (Str.ofString "last_interval") := fun m x t => if_neg (by decide +kernel)
  intro d
  induction d with
  | zero =>
    intro i s₀ s m hi K hm
    obtain rfl : i = k := hi
    obtain ⟨hpl, htail⟩ := ht
    rcases htail with ⟨hmore, hlen | h127⟩ | ⟨hmore, h1, h0⟩
    · have e1 : i + 1 - i = 1 := Nat.add_sub_cancel_left i 1
      rw [e1]
      refine sg_turn (W.done s _ _ ⟨by rw [hsz, hlen]; exact K.it, K.la⟩ fun h' tk hk' => ?_) (by intro _; rfl)
      refine sg_block_nil (hend _ _ .next (.inl rfl) ⟨rfl, hmore, J, hKJ, ?_⟩)
      obtain ⟨h, tk₀, e, k₀⟩ := K.since.weak
      subst e
      exact ⟨h', tk, rfl, fun b o h1 h2 e => hk' b o (by simpa using h2) (k₀ b o h1 h2 e)⟩
    · refine one i s₀ s m 127 h127 K fun s₂ t K2 => ?_
      have e1 : i + 1 - i = 1 := Nat.add_sub_cancel_left i 1
      rw [e1]
      refine sg_stmt (wpAny_If (wpAny_isTrue_Compare1 (gi_ld K2.ns (vInt m 127 t) (kG K2.base (eq_int (wpAny_truthy_bool ?_))) rfl rfl (by decide +kernel)) (by with_unfolding_all rfl)))
      rw [if_pos (by decide)]
      refine wpAny_execs_cons (wpAny_Return_none ?_)
      show Seg _ A _ _ 1 s₀ _ (leafOf (.ok (.ret .none))) _ _
      exact seg_leaf (.ok (.ret .none)) (hend _ _ (.ret .none) (.inr rfl) ⟨rfl, hmore, J, hKJ, K2.since.weak⟩)
    · refine one i s₀ s m 0 h0 K fun s₂ t K2 => ?_
      have e1 : i + 1 - i = 0 + 1 := Nat.add_sub_cancel_left i 1
      rw [e1]
      obtain ⟨tl, hl⟩ := hm.2 h1
      refine sg_stmt (wpAny_If (wpAny_isTrue_Compare1 (gi_ld K2.ns (vInt m 0 t) (kG K2.base (eq_int (wpAny_truthy_bool ?_))) rfl rfl (by decide +kernel)) (by with_unfolding_all rfl)))
      rw [if_neg (by decide)]
      refine wpAny_execs_nil ?_
      dsimp only
      refine seg_execs_cons (sg_If (wpAny_isTrue_Compare1 (gi_ld K2.ns (vInt m 0 t) (wpAny_Constant_int (eq_int (wpAny_truthy_bool ?_))) rfl rfl (by decide +kernel)) (by with_unfolding_all rfl)))
      rw [if_pos (by decide)]
      refine sg_stmt (wpAny_If (wpAny_isTrue_Compare1 (gi_ld K2.ns ((vLast m 0 t).trans hl) (wpAny_Constant_none (is_int_none (wpAny_truthy_bool ?_))) rfl rfl (by decide +kernel)) (by with_unfolding_all rfl)))
      rw [if_neg (by decide)]
      refine wpAny_execs_nil ?_
      dsimp only
      refine seg_execs_cons (seg_While fun pp => seg_whileLoop (wpAny_isTrue_value (wpAny_Constant_bool (wpAny_truthy_bool ?_))))
      rw [if_pos rfl]
      refine seg_execs_cons (seg_Expr_Yield rfl rfl rfl ?_ rfl rfl)
      refine gi_ld K2.ns ((vLast m 0 t).trans hl) ?_ rfl rfl (by decide +kernel)
      intro kap _
      exact ⟨fun _ => hmore, ⟨tl, by unfold itemOf; rw [if_neg (by omega)]⟩, J, hKJ, K2.since.tok _, .inl rfl⟩
  | succ d ih =>
    intro i s₀ s m hi K hm
    have hik : i < k := hi ▸ Nat.lt_add_of_pos_right (Nat.succ_pos d)
    refine one i s₀ s m _ (ht.1 i hik) K fun s₂ t K2 => ?_
    have e1 : k + 1 - i = (k - i) + 1 := Nat.succ_sub (Nat.le_of_lt hik)
    rw [e1]
    refine sg_stmt (wpAny_If (wpAny_isTrue_Compare1 (gi_ld K2.ns (vInt m _ t) (kG K2.base (eq_int (wpAny_truthy_bool ?_))) rfl rfl (by decide +kernel)) (by with_unfolding_all rfl)))
    rw [if_neg (fun h => gi_ne127 hik hk (eq_of_beq h))]
    refine wpAny_execs_nil ?_
    dsimp only
    refine sg_stmt (wpAny_If (wpAny_isTrue_Compare1 (gi_ld K2.ns (vInt m _ t) (wpAny_Constant_int (eq_int (wpAny_truthy_bool ?_))) rfl rfl (by decide +kernel)) (by with_unfolding_all rfl)))
    rw [if_neg (fun h => gi_ne0 i (eq_of_beq h))]
    refine wpAny_execs_nil ?_
    dsimp only
    refine seg_execs_cons (seg_Expr_Yield rfl rfl rfl ?_ rfl rfl)
    refine gi_ld K2.ns (vInt m _ t) ?_ rfl rfl (by decide +kernel)
    intro kap hkap
    refine ⟨fun h0 => absurd h0 (Nat.sub_ne_zero_of_lt hik), ⟨t, by unfold itemOf; rw [Nat.sub_sub_self (Nat.le_of_lt hik), if_pos hik]⟩, J, hKJ, K2.since.tok _, .inr fun s'' hk'' hb'' => hkap .none s'' ?_⟩
    have K3 := K2.wake hk'' hb''
    dsimp only
    refine sg_stmt (wpAny_Assign_Name (gi_ld K3.ns (vInt m _ t) (gi_st K3.ns (fun h₂ n₂ hs₂ => ?_) rfl rfl) rfl rfl (by decide +kernel)) rfl)
    dsimp only
    refine seg_again rfl ?_
    have e2 : k - i = k + 1 - (i + 1) := (Nat.add_sub_add_right k 1 i).symm
    rw [e2]
    refine ih (i + 1) _ _ _ ((Nat.add_right_comm i 1 d).trans hi) (K3.step hC0 hJ0 haC haJ (fun b o h1 _ e => hs₂.extBut b o h1 e) n₂ (K3.it.at fun o e => hs₂.extBut J o hJC e)) ⟨fun h0 => absurd h0 (Nat.succ_ne_zero i), fun _ => ⟨t, if_pos rfl⟩⟩
end
end Mine

-- GI2
theorem Mine.gap_GI2 : True ∧ True := by w_top off; walk1 <;> trivial
namespace Mine
open PySem PySem.W PySem.Calls PyProof.Rows
set_option maxRecDepth 100000
section
variable {w : World} {A : Around} {p : Program} {loose : List Str} {mean : ExcName → Option Value} {mg mb : Str → Option Value}
theorem kf_start10 (w : World) : PySem.Challenge.rw_zd0009_01 = PySem.Challenge.rw_zd0009_01 → findIn (hd.heap_1 w.params) (.ref 107) "__getattr__" = some none := by k_fill; intro _; k_is
set_option maxHeartbeats 4000000 in
theorem gi_start {g' : Heap} {C Kb a : Addr} {us : List Value} {xs : List Int} {k : Nat} {more : Bool} {m : Str → Option Value} {s : Shared} (hh : A.handled = none) (X' : (hd.heap_1 w.params).In g') (T' : Top p loose mean mg mb g')
    (hu : IntsAre us xs) (ht : Tail xs k more) (hk : k ≤ 4) (haC : a ≠ C) (hC0 : g'.get? C = none) (hgs : g'.objs.size ≤ Kb) (hCK : C < Kb)
    (hn : s.heap.Ns C m) (hm : m (Str.ofString "grouping") = some (.ref a)) (hb : ∀ b o, g'.get? b = some o → s.heap.get? b = some o) (hl : s.heap.IsList a us.toArray) (hKs : Kb ≤ s.heap.objs.size) :
    Seg (model PySem.Challenge.rw_zd0009_01.row.prog w) A (giR C Kb more) (giY C Kb a g' k more) (k + 1) s (.func (giStmts w) (giEnv w C)) ((model PySem.Challenge.rw_zd0009_01.row.prog w).den (.func (giStmts w) (giEnv w C))) [] s := by
  refine seg_func ?_
  refine sg_stmt (wpAny_Assign_Name (wpAny_Constant_none (gi_st hn (fun h₂ n₂ hs₂ => ?_) rfl rfl)) rfl)
  dsimp only
  have hl2 : h₂.IsList a us.toArray := hl.at fun o e => hs₂.extBut a o haC e
  have hsz : h₂.objs.size = s.heap.objs.size := hs₂.1
  refine seg_execs_cons (sg_For (gi_ld n₂ ((if_neg (by decide +kernel)).trans hm) ?_ rfl rfl (by decide +kernel)) (by intro _; rfl))
  refine wpAny_pyIter_list hl2 fun pp => ?_
  have hag : a < h₂.objs.size := by obtain ⟨o, e, _⟩ := hl2; exact Heap.lt_size e
  have hJ0 : g'.get? h₂.objs.size = none := by
    cases e : g'.get? h₂.objs.size with
    | none => rfl
    | some o => have := hb _ _ e; rw [← hsz] at hKs; exact absurd (Heap.lt_size this) (by rw [hsz]; exact Nat.lt_irrefl _)
  have up : ∀ b o, h₂.get? b = some o → (h₂.push { cls := .type "list_iterator", data := .fields #[.ref a, .int 0 0] }).get? b = some o := fun b o e => Heap.get?_push_of_some _ e
  have e0 : k + 1 = k + 1 - 0 := rfl
  rw [e0]
  refine gi_turn (J := h₂.objs.size) (Kb := Kb) hh X' T' hu ht hk (Nat.ne_of_gt (Nat.lt_of_lt_of_le hCK (hsz ▸ hKs))) (Nat.ne_of_lt hag) haC (hsz ▸ hKs) hJ0 hC0 ?_ k 0 s _ (fun y => if y = Str.ofString "last_interval" then some .none else m y) (by omega) ⟨n₂.push _, fun b o e => up b o (hs₂.extBut b o (fun q => by rw [q, hC0] at e; cases e) (hb b o e)), hl2.push _, ⟨_, Heap.get?_push_size _ rfl, rfl, rfl⟩, ?_⟩ ⟨fun _ => if_pos rfl, fun h => absurd h (by omega)⟩
  · rintro s₀ s₁ f (rfl | rfl) hP
    · show Seg _ A _ _ 1 s₀ _ (leafOf (.ok (.ret .none))) [] s₁
      exact seg_end _ ⟨rfl, hP⟩
    · show Seg _ A _ _ 1 s₀ _ (leafOf (.ok (.ret .none))) [] s₁
      exact seg_end _ ⟨rfl, hP⟩
  · refine ⟨_, _, rfl, fun b o h1 _ e => up b o (hs₂.extBut b o h1 e), ns_get (n₂.push _), ⟨_, Heap.get?_push_size _ rfl⟩⟩
end
end Mine

-- GI3
theorem Mine.gap_GI3 : True ∧ True := by w_top off; walk1 <;> trivial
namespace Mine
open PySem PySem.W PySem.Calls PyProof.Rows
set_option maxRecDepth 100000
/-- a generator of sizes that has told j of them -/
structure GenO (prog : Program) (w : World) (A : Around) (g' : Heap) (C Kb a G : Addr) (g k : Nat) (more : Bool) (j : Nat) (js : List Addr) (s : Shared) : Prop where
  gen : s.heap.IsGen G g
  base : ∀ b o, g'.get? b = some o → s.heap.get? b = some o
  goes : ∃ gs, s.gens[g]? = some gs ∧ ∀ s'' : Shared, (∀ b ∈ C :: a :: js, ∀ o, s.heap.get? b = some o → s''.heap.get? b = some o) → (∀ b o, g'.get? b = some o → s''.heap.get? b = some o) → Kb ≤ s''.heap.objs.size →
    gs.Goes (model prog w) A.in1 (giR C Kb more) (giY C Kb a g' k more) (k + 1 - j) (.send .none) s''
theorem GenO.frame {prog : Program} {w : World} {A : Around} {g' : Heap} {C Kb a G : Addr} {g k : Nat} {more : Bool} {j : Nat} {js : List Addr} {s s₂ : Shared} (K : GenO prog w A g' C Kb a G g k more j js s) (hg : s₂.gens[g]? = s.gens[g]?)
    (hb : ∀ b o, g'.get? b = some o → s₂.heap.get? b = some o) (hk : ∀ b ∈ G :: C :: a :: js, ∀ o, s.heap.get? b = some o → s₂.heap.get? b = some o) : GenO prog w A g' C Kb a G g k more j js s₂ := by
  obtain ⟨gs, hgs, hgo⟩ := K.goes
  exact ⟨let ⟨o, nm, qn, ho, r⟩ := K.gen; ⟨o, nm, qn, hk G List.mem_cons_self o ho, r⟩, hb, gs, hg.trans hgs, fun s'' hk'' hb'' hsz => hgo s'' (fun b hb' o e => hk'' b hb' o (hk b (List.mem_cons_of_mem _ hb') o e)) hb'' hsz⟩
section
variable {prog : Program} {w : World} {A : Around} {E : Value → Shared → Prop} {s : Shared}
theorem gen_item {g' : Heap} {C Kb a G : Addr} {g k : Nat} {more : Bool} {j : Nat} {js : List Addr} {Q : Option Value → Shared → Prop} (K : GenO prog w A g' C Kb a G g k more j js s) (hh : A.handled = none) (hl : g'.NoLimit) (hroom : A.depth < recursionLimit) (hj : j ≤ k)
    (hGK : Kb = G + 1) (hGC : G ≠ C) (hC0 : g'.get? C = none) (hgK : g'.objs.size ≤ Kb)
    (hI : (j < k ∨ more = true) → ∀ J h tk gens' t, Kb ≤ J → (∀ b o, b ≠ C → b ≠ J → s.heap.get? b = some o → h.get? b = some o) → (∃ oC, h.get? C = some oC) → (∃ oJ, h.get? J = some oJ) → (AllBare s.gens → AllBare gens') →
      (j < k → GenO prog w A g' C Kb a G g k more (j + 1) [J] { s with heap := h, toks := tk, gens := gens' }) → Q (some (.int (itemOf k j) t)) { s with heap := h, toks := tk, gens := gens' })
    (hD : j = k → more = false → ∀ J h tk gens', Kb ≤ J → (∀ b o, b ≠ C → b ≠ J → s.heap.get? b = some o → h.get? b = some o) → (AllBare s.gens → AllBare gens') → Q none { s with heap := h, toks := tk, gens := gens' }) :
    wpAny (model prog w) A (pyNext (.ref G)) Q E s := by
  obtain ⟨gs, hgs, hgo⟩ := K.goes
  have hglt : g < s.gens.size := (Array.getElem?_eq_some_iff.mp hgs).1
  have hGs : G < s.heap.objs.size := by obtain ⟨o, _, _, e, _⟩ := K.gen; exact Heap.lt_size e
  have hKs : Kb ≤ s.heap.objs.size := by rw [hGK]; exact hGs
  have hGJ : ∀ J, Kb ≤ J → G ≠ J := fun J h => Nat.ne_of_lt (Nat.lt_of_lt_of_le (by rw [hGK]; exact Nat.lt_succ_self _) h)
  have bset : ∀ x : GenState, x.bare = true → AllBare s.gens → AllBare ((s.gens.setIfInBounds g .running).setIfInBounds g x) := fun x hx hs y hy => by
    rcases Array.mem_or_eq_of_mem_setIfInBounds hy with h1 | rfl
    · rcases Array.mem_or_eq_of_mem_setIfInBounds h1 with h1 | rfl
      · exact hs y h1
      · rfl
    · exact hx
  have hjk0 : j ≤ k := by omega
  have e : k + 1 - j = (k - j) + 1 := Nat.succ_sub hjk0
  refine gen_next (n := k + 1 - j) hh (hl.keeps K.base) hroom K.gen hgs (hgo (s.setGen g .running) (fun _ _ _ e => e) K.base hKs) ?_ ?_
  · intro v s₁ gs' hb hY
    rw [e] at hY
    obtain ⟨hm, ⟨t, rfl⟩, J, hKJ, ⟨h, tk, rfl, hk, hoC, hoJ⟩, hnx⟩ := hY
    have e2 : itemOf k (k - (k - j + 1 - 1)) = itemOf k j := congrArg (itemOf k) (Nat.sub_sub_self hjk0)
    rw [e2]
    refine hI ?_ J h tk _ t hKJ hk hoC hoJ (bset gs' hb) fun hjk => ⟨let ⟨o, nm, qn, ho, r⟩ := K.gen; ⟨o, nm, qn, hk G o hGC (hGJ J hKJ) ho, r⟩, fun b o e => hk b o (fun q => by rw [q, hC0] at e; cases e) (fun q => ?_) (K.base b o e), gs', ?_, ?_⟩
    · by_cases h0 : k - j = 0
      · exact .inr (hm h0)
      · exact .inl (Nat.lt_of_sub_ne_zero h0)
    · rw [q] at e
      exact absurd (Heap.lt_size e) (Nat.not_lt.mpr (Nat.le_trans hgK hKJ))
    · rw [Array.getElem?_setIfInBounds_self_of_lt (by show g < (s.gens.setIfInBounds g .running).size; rw [Array.size_setIfInBounds]; exact hglt)]
    · intro s'' hk'' hb'' _
      rcases hnx with h0 | hnx
      · omega
      · have e3 : k + 1 - (j + 1) = k - j := Nat.add_sub_add_right k 1 j
        rw [e3]
        exact hnx s'' (fun b hb' => hk'' b (by simp at hb' ⊢; rcases hb' with h | h | h <;> simp [h])) hb''
  · intro s₁ hP h' hk'
    obtain ⟨h1, hmore, J, hKJ, h, tk, rfl, hk⟩ := hP
    exact hD (by omega) hmore J h' tk _ hKJ (fun b o b1 b2 e => hk' b o (hk b o b1 b2 e)) (bset .finished rfl)
end
end Mine

-- GI4
theorem Mine.gap_GI4 : True ∧ True := by w_top off; walk1 <;> trivial
namespace Mine
open PySem PySem.W PySem.Calls PyProof.Rows
set_option maxRecDepth 100000
theorem kf_start11 (w : World) : PySem.Challenge.rw_zd0009_01 = PySem.Challenge.rw_zd0009_01 → findIn (hd.heap_1 w.params) (.ref 107) "__getattr__" = some none := by k_fill; intro _; k_is
theorem gi_obj (w : World) : ∃ oc od osl, (hd.heap_1 w.params).lookup 118 = some ⟨oc, od, .func (giFd w), osl⟩ := ⟨_, _, _, rfl⟩
theorem gi_code (w : World) : codeIn (hd.heap_1 w.params) (giFd w).code (giFd w).qualname = true := by
  show codeIn (hd.heap_1 w.params) (.ref 117) (Str.ofString "_grouping_intervals") = true
  k_is
theorem gi_bind (w : World) (v : Value) : bindArgs (giFd w) ⟨[v], []⟩ = pure [(Str.ofString "grouping", v)] := by kernel_rfl
theorem gi_cells (w : World) : ∀ x ∈ (giFd w).scope.names, x.2 ≠ .cell := by
  have h : ((giFd w).scope.names.all fun x => x.2 != .cell) = true := by kernel_rfl
  exact fun x hx => bne_iff_ne.mp (List.all_eq_true.mp h x hx)
theorem gi_locs (w : World) (v : Value) : ∀ x ∈ [(Str.ofString "grouping", v)], (giFd w).scope.names.lookup x.1 = some .local := locs (by kernel_rfl)
section
variable {w : World} {A : Around} {p : Program} {loose : List Str} {mean : ExcName → Option Value} {mg mb : Str → Option Value} {s : Shared}
set_option maxHeartbeats 4000000 in
theorem gi_call {h₀ : Heap} {L : Addr} {m : Str → Option Value} {news : List (Addr × Obj)} {a : Addr} {us : List Value} {xs : List Int} {ka k : Nat} {more : Bool} {Q E : Value → Shared → Prop} (hh : A.handled = none) (hroom : A.depth < recursionLimit)
    (F : Fr h₀ L s.heap m) (X : (hd.heap_1 w.params).In h₀) (N : News h₀ L s.heap news) (T : Top p loose mean mg mb h₀) (hm : (a, listOf us.toArray ka) ∈ news) (hu : IntsAre us xs) (ht : Tail xs k more) (hk : k ≤ 4)
    (hQ : ∀ C G oC oG h' tk gs, gs.bare = true → Fr h₀ L h' m → News h₀ L h' ((G, oG) :: (C, oC) :: news) → (∀ q ∈ news, q.1 < C) → L < C → C < G → GenO PySem.Challenge.rw_zd0009_01.row.prog w A h₀ C (G + 1) a G s.gens.size k more 0 [] { s with heap := h', toks := tk, gens := s.gens.push gs } → Q (.ref G) { s with heap := h', toks := tk, gens := s.gens.push gs }) :
    wpAny (model PySem.Challenge.rw_zd0009_01.row.prog w) A (call (.ref 118) [.ref a]) Q E s := by
  obtain ⟨oc, od, osl, ho⟩ := gi_obj w
  have X' := X.keeps F.keep
  refine wpAny_call (codeAny_call_generator (fd := giFd w) (body := giStmts w) hroom (X' 118 _ ho) rfl rfl rfl rfl (codeRec_of X' (gi_code w)) ?_)
  refine wpAny_of_eq (gi_bind w (.ref a)) ?_
  refine wpAny_newFunctionEnv (gi_cells w) (gi_locs w _) (fun h₁ hns hsb => ?_) rfl
  have hsz1 : h₁.objs.size = s.heap.objs.size + 1 := by rw [hsb.1, Heap.size_push]
  have hne : ∀ b o, s.heap.get? b = some o → b ≠ s.heap.objs.size := fun b o e => Nat.ne_of_lt (Heap.lt_size e)
  have up1 : ∀ b o, s.heap.get? b = some o → h₁.get? b = some o := fun b o e => hsb.extBut b o (hne b o e) (Heap.get?_push_of_some _ e)
  refine ⟨T.nolimit.keeps fun b o e => up1 b o (F.keep b o e), ?_⟩
  obtain ⟨oC, hoC⟩ := ns_get hns
  have up2 : ∀ o b o', h₁.get? b = some o' → (h₁.push o).get? b = some o' := fun o b o' e => Heap.get?_push_of_some _ e
  have hLs : L < s.heap.objs.size := F.ns.lt
  have hC0 : h₀.get? s.heap.objs.size = none := next_is_new F
  have hG0 : h₀.get? h₁.objs.size = none := by
    cases e : h₀.get? h₁.objs.size with
    | none => rfl
    | some o => exact absurd (Heap.lt_size (up1 _ _ (F.keep _ _ e))) (Nat.lt_irrefl _)
  have hbs : h₀.objs.size ≤ s.heap.objs.size := Nat.le_trans F.above (Nat.le_of_lt hLs)
  have la := N.isList hm
  have haC : a ≠ s.heap.objs.size := by obtain ⟨o, e, _⟩ := la; exact hne a o e
  refine hQ s.heap.objs.size h₁.objs.size oC { cls := .type "generator", data := .fields #[.int s.gens.size 0, .str (giFd w).name (s.toks + 1), .str (giFd w).qualname (s.toks + 1 + 1)] } (h₁.push { cls := .type "generator", data := .fields #[.int s.gens.size 0, .str (giFd w).name (s.toks + 1), .str (giFd w).qualname (s.toks + 1 + 1)] }) _ (.fresh (.func (giStmts w) (giEnv w s.heap.objs.size))) rfl (F.keeps fun b o e => up2 _ b o (up1 b o e)) ?_ (fun q hq => Heap.lt_size (N q hq).1) hLs (by rw [hsz1]; exact Nat.lt_succ_self _) ⟨⟨_, _, _, Heap.get?_push_size _ rfl, rfl, rfl, rfl⟩, fun b o e => up2 _ b o (up1 b o (F.keep b o e)), _, Array.getElem?_push_size .., fun s'' hk'' hb'' hsz => ⟨rfl, ?_⟩⟩
  · intro q hq
    rcases List.mem_cons.mp hq with rfl | hq
    · exact ⟨Heap.get?_push_size _ rfl, Nat.ne_of_gt (by rw [hsz1]; exact Nat.lt_succ_of_lt hLs), hG0⟩
    · rcases List.mem_cons.mp hq with rfl | hq
      · exact ⟨up2 _ _ _ hoC, Nat.ne_of_gt hLs, hC0⟩
      · exact ⟨up2 _ _ _ (up1 _ _ (N q hq).1), (N q hq).2⟩
  · exact gi_start (A := A.in1) hh X T hu ht hk haC hC0 (Nat.le_succ_of_le (by rw [hsz1]; exact Nat.le_succ_of_le hbs)) (by rw [hsz1]; exact Nat.lt_succ_of_lt (Nat.lt_succ_self _)) (hns.at' fun o e => hk'' _ List.mem_cons_self o (up2 _ _ _ e)) rfl hb'' (la.at fun o e => hk'' a (List.mem_cons_of_mem _ List.mem_cons_self) o (up2 _ _ _ (up1 _ _ e))) hsz
end
end Mine

-- LoopG
theorem Mine.gap_LoopG : True ∧ True := by w_top off; walk1 <;> trivial
namespace Mine
open PySem PySem.W PySem.Calls PyProof.Rows
/-- where a loop over a generator of sizes stands -/
inductive LGI (prog : Program) (w : World) (A : Around) (h₀ : Heap) (L C G a : Addr) (oG oa : Obj) (g k : Nat) (more : Bool) (J : Nat → (Str → Option Value) → List (Addr × Obj) → Prop) (s : Shared) : Nat → Shared → Prop
  | mk (h : Heap) (tk : Nat) (g' : Array GenState) (m' : Str → Option Value) (nw' : List (Addr × Obj)) (i : Nat) (js : List Addr) (hi : i ≤ k) (K : GenO prog w A h₀ C (G + 1) a G g k more i js { s with heap := h, toks := tk, gens := g' }) (F : Fr h₀ L h m') (N : News h₀ L h ((G, oG) :: nw')) (lt : ∀ p ∈ nw', p.1 < C) (ha : (a, oa) ∈ nw') (hb : AllBare g') (hJ : J i m' nw') :
    LGI prog w A h₀ L C G a oG oa g k more J s (k + 2 - i) { s with heap := h, toks := tk, gens := g' }
/-- what a turn leaves that goes on -/
def GoG (h₀ : Heap) (L C J G a : Addr) (oC oJ oG oa : Obj) (i k : Nat) (Jn : (Str → Option Value) → List (Addr × Obj) → Prop) (s₁ s' : Shared) : Prop :=
  i < k ∧ ∃ h tk m' nw', s' = { s₁ with heap := h, toks := tk } ∧ Fr h₀ L h m' ∧ News h₀ L h ((C, oC) :: (J, oJ) :: (G, oG) :: nw') ∧ (∀ p ∈ nw', p.1 < C) ∧ (a, oa) ∈ nw' ∧ Jn m' nw'
/-- where a turn over a generator of sizes ends -/
def TurnG (h₀ : Heap) (L C J G a : Addr) (oC oJ oG oa : Obj) (i k : Nat) (Jn : (Str → Option Value) → List (Addr × Obj) → Prop) (s₁ : Shared) (Q : Flow → Shared → Prop) (f : Flow) (s' : Shared) : Prop :=
  match f with
  | .ret v => Q (.ret v) s'
  | .brk => Q .next s'
  | _ => GoG h₀ L C J G a oC oJ oG oa i k Jn s₁ s'
theorem TurnG.next {h₀ : Heap} {L C J G a : Addr} {oC oJ oG oa : Obj} {i k : Nat} {Jn : (Str → Option Value) → List (Addr × Obj) → Prop} {s₁ : Shared} {Q : Flow → Shared → Prop} {m' : Str → Option Value} {all : List (Addr × Obj)} {h : Heap} {tk : Nat} (nw' : List (Addr × Obj)) (hi : i < k)
    (F : Fr h₀ L h m') (N : News h₀ L h all) (sub : ∀ p ∈ (C, oC) :: (J, oJ) :: (G, oG) :: nw', p ∈ all) (hlt : ∀ p ∈ nw', p.1 < C) (ha : (a, oa) ∈ nw') (j : Jn m' nw') : TurnG h₀ L C J G a oC oJ oG oa i k Jn s₁ Q .next { s₁ with heap := h, toks := tk } :=
  ⟨hi, h, tk, m', nw', rfl, F, fun p hp => N p (sub p hp), hlt, ha, j⟩
theorem TurnG.brk {h₀ : Heap} {L C J G a : Addr} {oC oJ oG oa : Obj} {i k : Nat} {Jn : (Str → Option Value) → List (Addr × Obj) → Prop} {s₁ s' : Shared} {Q : Flow → Shared → Prop} (h : Q .next s') : TurnG h₀ L C J G a oC oJ oG oa i k Jn s₁ Q .brk s' := h
section
variable {prog : Program} {w : World} {A : Around} {s : Shared} {h₀ : Heap} {m : Str → Option Value} {env : Env}
theorem loop_gen {Q : Flow → Shared → Prop} {E : Value → Shared → Prop} {target : Expr} {body orelse : List Stmt} {C G a : Addr} {oC oG oa : Obj} {g k : Nat} {more : Bool} {nw : List (Addr × Obj)} (hh : A.handled = none) (hroom : A.depth < recursionLimit) (hl : h₀.NoLimit)
    (K : GenO prog w A h₀ C (G + 1) a G g k more 0 [] s) (hCG : C < G) (hLC : env.locals < C) (F : Fr h₀ env.locals s.heap m) (N : News h₀ env.locals s.heap ((G, oG) :: (C, oC) :: nw)) (hlt : ∀ p ∈ nw, p.1 < C) (ha : (a, oa) ∈ nw) (hb : AllBare s.gens)
    (J : Nat → (Str → Option Value) → List (Addr × Obj) → Prop) (h0 : J 0 m nw)
    (step : ∀ i Jd oC oJ m₁ nw₁ h tk g t, i ≤ k → (i < k ∨ more = true) → J i m₁ nw₁ → (∀ p ∈ nw₁, p.1 < C) → (a, oa) ∈ nw₁ → AllBare g → Fr h₀ env.locals h m₁ → News h₀ env.locals h ((C, oC) :: (Jd, oJ) :: (G, oG) :: nw₁) → G < Jd →
      wpAny (model prog w) A (assign target env (.int (itemOf k i) t)) (fun _ s' => wpAny (model prog w) A (execs body env) (TurnG h₀ env.locals C Jd G a oC oJ oG oa i k (J (i + 1)) { s with heap := h, toks := tk, gens := g } Q) E s') E { s with heap := h, toks := tk, gens := g })
    (done : more = false → ∀ h tk g m' nw', J k m' nw' → (a, oa) ∈ nw' → AllBare g → Fr h₀ env.locals h m' → News h₀ env.locals h nw' → wpAny (model prog w) A (execs orelse env) Q E { s with heap := h, toks := tk, gens := g })
    (hE : PassesOwn (model prog w) A env E := by passes_own) (ht : ∀ I v, letOwnedTupleGo target (.ref I) v = pure () := by intro _ _; rfl) :
    LoopTo prog w A env target body orelse Q E (.ref G) s := by
  have hC0 : h₀.get? C = none := (N _ (List.mem_cons_of_mem _ List.mem_cons_self)).2.2
  have hgK : h₀.objs.size ≤ G + 1 := Nat.le_succ_of_le (Nat.le_trans F.above (Nat.le_of_lt (Nat.lt_trans hLC hCG)))
  refine wpAny_pyIter_gen K.gen ?_
  refine codeAny_forLoop (LGI prog w A h₀ env.locals C G a oG oa g k more J s) ?_ (k + 2)
    (.mk s.heap s.toks s.gens m nw 0 [] (Nat.zero_le _) K F (fun p hp => N p (by rcases List.mem_cons.mp hp with rfl | hp; exact List.mem_cons_self; exact List.mem_cons_of_mem _ (List.mem_cons_of_mem _ hp))) hlt ha hb h0) (ht G)
  rintro n s' ⟨h, tk, g', m', nw', i, js, hi, K', F', N', lt', ha', hb', hJ⟩
  have G0 := N' (G, oG) List.mem_cons_self
  have jne : ∀ Jd, G + 1 ≤ Jd → ∀ b o, h₀.get? b = some o → b ≠ Jd := fun Jd hJd b o e q => by
    rw [q] at e
    exact absurd (Heap.lt_size e) (Nat.not_lt.mpr (Nat.le_trans hgK hJd))
  have cne : ∀ b o, h₀.get? b = some o → b ≠ C := fun b o e q => by rw [q, hC0] at e; cases e
  have keepF : ∀ Jd h₂, G + 1 ≤ Jd → (∀ b o, b ≠ C → b ≠ Jd → h.get? b = some o → h₂.get? b = some o) → Fr h₀ env.locals h₂ m' := fun Jd h₂ hJd hk =>
    ⟨F'.ns.at' fun o e => hk _ o (Nat.ne_of_lt hLC) (Nat.ne_of_lt (Nat.lt_of_lt_of_le (Nat.lt_succ_of_lt (Nat.lt_trans hLC hCG)) hJd)) e, fun b o e => hk b o (cne b o e) (jne Jd hJd b o e) (F'.keep b o e), F'.above⟩
  have keepN : ∀ Jd h₂, G + 1 ≤ Jd → (∀ b o, b ≠ C → b ≠ Jd → h.get? b = some o → h₂.get? b = some o) → News h₀ env.locals h₂ ((G, oG) :: nw') := fun Jd h₂ hJd hk p hp => by
    have z := N' p hp
    refine ⟨hk _ _ ?_ ?_ z.1, z.2⟩
    · rcases List.mem_cons.mp hp with rfl | hp
      · exact Nat.ne_of_gt hCG
      · exact Nat.ne_of_lt (lt' p hp)
    · rcases List.mem_cons.mp hp with rfl | hp
      · exact Nat.ne_of_lt hJd
      · exact Nat.ne_of_lt (Nat.lt_of_lt_of_le (Nat.lt_succ_of_lt (Nat.lt_trans (lt' p hp) hCG)) hJd)
  refine gen_item K' hh hl hroom hi rfl (Nat.ne_of_gt hCG) hC0 hgK ?_ ?_
  · rintro hc Jd h₂ tk₂ g₂ t hJd hk ⟨oC₂, eC⟩ ⟨oJ₂, eJ⟩ hbare hnext
    have F₂ := keepF Jd h₂ hJd hk
    have N₂ : News h₀ env.locals h₂ ((C, oC₂) :: (Jd, oJ₂) :: (G, oG) :: nw') := fun p hp => by
      rcases List.mem_cons.mp hp with rfl | hp
      · exact ⟨eC, Nat.ne_of_gt hLC, hC0⟩
      · rcases List.mem_cons.mp hp with rfl | hp
        · refine ⟨eJ, Nat.ne_of_gt (Nat.lt_of_lt_of_le (Nat.lt_succ_of_lt (Nat.lt_trans hLC hCG)) hJd), ?_⟩
          cases q : h₀.get? Jd with
          | none => rfl
          | some o => exact absurd rfl (jne Jd hJd _ _ q)
        · exact keepN Jd h₂ hJd hk p hp
    refine wpAny_passesOwn hE (wpAny_mono (step i Jd oC₂ oJ₂ m' nw' h₂ tk₂ g₂ t hi hc hJ lt' ha' (hbare hb') F₂ N₂ hJd) (fun _ s₂ h₃ => wpAny_passesOwn hE (wpAny_mono h₃ (fun f s₃ h₄ => ?_) fun _ _ e => e)) fun _ _ e => e)
    have go : GoG h₀ env.locals C Jd G a oC₂ oJ₂ oG oa i k (J (i + 1)) { s with heap := h₂, toks := tk₂, gens := g₂ } s₃ → ∃ m, m < k + 2 - i ∧ LGI prog w A h₀ env.locals C G a oG oa g k more J s m s₃ := by
      rintro ⟨hik, h₃, tk₃, m₃, nw₃, rfl, F₃, N₃, lt₃, ha₃, j₃⟩
      refine ⟨k + 2 - (i + 1), Nat.sub_lt_sub_left (Nat.lt_succ_of_lt (Nat.lt_succ_of_lt hik)) (Nat.lt_succ_self i), .mk h₃ tk₃ g₂ m₃ nw₃ (i + 1) [Jd] hik ((hnext hik).frame rfl F₃.keep ?_) F₃ (fun p hp => N₃ p (List.mem_cons_of_mem _ (List.mem_cons_of_mem _ hp))) lt₃ ha₃ (hbare hb') j₃⟩
      have same : ∀ b o₁, (b, o₁) ∈ (C, oC₂) :: (Jd, oJ₂) :: (G, oG) :: nw' → (b, o₁) ∈ (C, oC₂) :: (Jd, oJ₂) :: (G, oG) :: nw₃ → ∀ o, h₂.get? b = some o → h₃.get? b = some o := fun b o₁ m1 m2 o e => by
        have := (N₂ _ m1).1
        rw [this] at e; cases e
        exact (N₃ _ m2).1
      intro b hb o e
      rcases List.mem_cons.mp hb with rfl | hb
      · exact same b oG (.tail _ (.tail _ (.head _))) (.tail _ (.tail _ (.head _))) o e
      · rcases List.mem_cons.mp hb with rfl | hb
        · exact same b oC₂ (.head _) (.head _) o e
        · rcases List.mem_cons.mp hb with rfl | hb
          · exact same b oa (.tail _ (.tail _ (.tail _ ha'))) (.tail _ (.tail _ (.tail _ ha₃))) o e
          · rw [List.mem_singleton] at hb; subst hb
            exact same b oJ₂ (.tail _ (.head _)) (.tail _ (.head _)) o e
    cases f with
    | ret v => exact h₄
    | brk => exact h₄
    | next => exact go h₄
    | cont => exact go h₄
  · rintro rfl hmore Jd h₂ tk₂ g₂ hJd hk hbare
    exact wpAny_passesOwn hE (done hmore h₂ tk₂ g₂ m' nw' hJ ha' (hbare hb') (keepF Jd h₂ hJd hk) fun p hp => keepN Jd h₂ hJd hk p (List.mem_cons_of_mem _ hp))
end
end Mine

-- Slc
theorem Mine.gap_Slc : True ∧ True := by w_top off; walk1 <;> trivial
namespace Mine
open PySem PySem.W PySem.Calls PyProof.Rows
def tri (i : Nat) : Nat := i * (i + 1) / 2
/-- the piece of a size -/
def pcB (bs : List Bool) (one : Nat) : List Bool := (bs.drop (bs.length - tri one)).take one
def leftB (bs : List Bool) (i : Nat) : List Bool := bs.take (bs.length - tri i)
theorem idx_neg_lo (m n : Nat) (h1 : 1 ≤ m) (h2 : m ≤ n) : Builtin.Str.strSliceIndices (some (-(m : Int))) none 1 n = Builtin.Str.strSliceIndices (some ((n - m : Nat) : Int)) none 1 n := by
  have e1 : (-(m : Int)) < 0 := by omega
  have e2 : ¬ (((n - m : Nat) : Int) < 0) := by omega
  have e3 : -(m : Int) + (n : Int) = ((n - m : Nat) : Int) := by omega
  simp only [Builtin.Str.strSliceIndices, e1, e2, e3, if_true, if_false]
theorem idx_neg_hi (m n : Nat) (h1 : 1 ≤ m) (h2 : m ≤ n) : Builtin.Str.strSliceIndices none (some (-(m : Int))) 1 n = Builtin.Str.strSliceIndices none (some ((n - m : Nat) : Int)) 1 n := by
  have e1 : (-(m : Int)) < 0 := by omega
  have e2 : ¬ (((n - m : Nat) : Int) < 0) := by omega
  have e3 : -(m : Int) + (n : Int) = ((n - m : Nat) : Int) := by omega
  simp only [Builtin.Str.strSliceIndices, e1, e2, e3, if_true, if_false]
theorem slc_tail (l : List Bool) (m : Nat) (h1 : 1 ≤ m) (h2 : m ≤ l.length) : Txt.slice (txt l) (some (-(m : Int))) none = txt (l.drop (l.length - m)) := by
  have e : Txt.slice (txt l) (some (-(m : Int))) none = Txt.slice (txt l) (some ((l.length - m : Nat) : Int)) none := by
    unfold Txt.slice
    rw [txt_length, idx_neg_lo m _ h1 h2]
  rw [e, slice_from_eq (b := (l.length : Int)) (by omega) (by rw [txt_length]; omega) (by rw [txt_length])]
  unfold txt
  congr 1
  rw [Int.toNat_natCast, List.map_drop, List.take_of_length_le]
  rw [List.length_drop, List.length_map]; omega
theorem slc_init (l : List Bool) (m : Nat) (h1 : 1 ≤ m) (h2 : m ≤ l.length) : Txt.slice (txt l) none (some (-(m : Int))) = txt (l.take (l.length - m)) := by
  have e : Txt.slice (txt l) none (some (-(m : Int))) = Txt.slice (txt l) none (some ((l.length - m : Nat) : Int)) := by
    unfold Txt.slice
    rw [txt_length, idx_neg_hi m _ h1 h2]
  rw [e]
  have h := slice_closes_to (x := txt l) (j := ((l.length - m : Nat) : Int)) ⟨by omega, by show _ ≤ (((l.map sgn).toArray.toList.length : Nat) : Int); simp⟩
  rw [beq_iff_eq.mp h]
  unfold txt
  congr 1
  simp [List.map_take]
theorem tri_fact : ∀ k, k < 5 → ∀ i, i < k → i + 1 ≤ tri k - tri i ∧ tri k - tri i - (i + 1) = tri k - tri (i + 1) ∧ tri k - tri i - (tri k - tri (i + 1)) = i + 1 ∧ tri k - tri (i + 1) ≤ tri k - tri i ∧ tri k - tri i ≠ 0 := by decide +kernel
theorem left_length {bs : List Bool} {k i : Nat} (hl : bs.length = tri k) : (leftB bs i).length = tri k - tri i := by unfold leftB; rw [List.length_take, hl]; exact Nat.min_eq_left (Nat.sub_le _ _)
theorem slc1 (bs : List Bool) (k i : Nat) (h1 : 1 ≤ k) (h4 : k ≤ 4) (hl : bs.length = tri k) (hi : i < k) : Txt.slice (txt (leftB bs i)) (some (-((i + 1 : Nat) : Int))) none = txt (pcB bs (i + 1)) := by
  obtain ⟨f1, f2, f3, _, _⟩ := tri_fact k (Nat.lt_succ_of_le h4) i hi
  have hlen := left_length (i := i) hl
  rw [slc_tail _ _ (Nat.succ_le_succ (Nat.zero_le _)) (by rw [hlen]; exact f1), hlen, f2]
  congr 1
  unfold leftB pcB
  rw [List.drop_take, hl, f3]
theorem slc2 (bs : List Bool) (k i : Nat) (h1 : 1 ≤ k) (h4 : k ≤ 4) (hl : bs.length = tri k) (hi : i < k) : Txt.slice (txt (leftB bs i)) none (some (-((i + 1 : Nat) : Int))) = txt (leftB bs (i + 1)) := by
  obtain ⟨f1, f2, _, f4, _⟩ := tri_fact k (Nat.lt_succ_of_le h4) i hi
  have hlen := left_length (i := i) hl
  rw [slc_init _ _ (Nat.succ_le_succ (Nat.zero_le _)) (by rw [hlen]; exact f1), hlen, f2]
  congr 1
  unfold leftB
  rw [List.take_take, hl, Nat.min_eq_left f4]
theorem left_ne (bs : List Bool) (k i : Nat) (h1 : 1 ≤ k) (h4 : k ≤ 4) (hl : bs.length = tri k) (hi : i < k) : (txt (leftB bs i) == Str.ofString "") = false := by
  obtain ⟨_, _, _, _, f5⟩ := tri_fact k (Nat.lt_succ_of_le h4) i hi
  have e : (txt (leftB bs i)).length ≠ 0 := by
    rw [txt_length, left_length hl]
    exact f5
  refine beq_eq_false_iff_ne.mpr fun q => e ?_
  rw [q]; rfl
theorem left_end (bs : List Bool) (k : Nat) (hl : bs.length = tri k) : (txt (leftB bs k) == Str.ofString "") = true := by
  unfold leftB
  rw [hl, Nat.sub_self, List.take_zero]
  decide +kernel
theorem left_len (bs : List Bool) (i : Nat) (h : bs.length ≤ 10) : (txt (leftB bs i)).length ≤ 10 := by
  rw [txt_length]; unfold leftB; rw [List.length_take]; omega
end Mine

-- FGroups
theorem Mine.gap_FGroups : True ∧ True := by w_top off; walk1 <;> trivial
namespace Mine
open PySem PySem.W PySem.Calls PyProof.Rows
set_option maxRecDepth 100000
local macro_rules | `(tactic| walk_at "execs cons") => `(tactic| ((refine wpAny_execs_cons (gen_toks fun tk => hideQ fun _ _ => ?_)); (try dsimp only)))
local macro_rules | `(tactic| walk_at "Hid") => `(tactic| (refine unhide (by assumption) ?_))
local macro_rules | `(tactic| walk_at "execs nil") => `(tactic| ((refine wpAny_execs_nil ?_); (try dsimp only)))
local macro_rules | `(tactic| walk_at "pyIter ref") => `(tactic| ((with_reducible show wpAny _ _ (pyIter _) _ _ _); refine Halt.of ?_))
local macro_rules | `(tactic| walk_at "call builtin:len") => `(tactic| (k_here; (with_reducible show wpAny _ _ (call (Value.builtin "len") [Value.ref _]) _ _ _); k_dflt (refine' kst_len ?k1 ?k2 rfl ?k4 ?_; (case k1 => k_asm); (case k2 => exact List.mem_cons_self); (case k4 => omega); k_whole)))
local macro_rules | `(tactic| walk_at "call builtin:list.append") => `(tactic| (k_here; (with_reducible show wpAny _ _ (call (Value.builtin "list.append") [Value.ref _, _]) _ _ _); k_dflt (refine' append_K ?k1 ?k2 (Upd.head ?k3) ?_ ?k4; (case k1 => k_asm); (case k2 => k_asm); (case k3 => assumption); (case k4 => (simp only [List.size_toArray, sizeLine_eq]; omega)); k_whole); intro h' F' N'))
local macro_rules | `(tactic| walk_at "ite") => `(tactic| first | with_reducible refine ite_tt ?_ | with_reducible refine ite_ff ?_ | (with_reducible refine split_ine ?_ ?_ <;> intro _) | (with_reducible refine split_ieq ?_ ?_ <;> intro _) | with_reducible refine split_not ?_ | (refine split_dec ?_ ?_ <;> intro _) | (refine split_bool ?_ ?_ <;> intro _) | rw [if_pos True.intro] | rw [if_neg not_false])
local macro_rules | `(tactic| walk_at "InvPostN") => `(tactic| ((with_reducible show InvPostN _ _ _ _ _ _ _ _ _); refine Halt.of ?_))
local macro_rules | `(tactic| walk_at "eval ListComp") => `(tactic| ((with_reducible show wpAny _ _ (eval (Expr.ListComp _ _ _ _) _) _ _ _); refine Halt.of ?_))
local macro_rules | `(tactic| walk_at "exec Assign cons ListComp") => `(tactic| ((with_reducible show wpAny _ _ (exec (Stmt.Assign _ (Expr.ListComp _ _ _ _) _) _) _ _ _); refine Halt.of ?_))
local macro_rules | `(tactic| walk_at "CSrc") => `(tactic| ((with_reducible show CSrc _ _ _ _ _ _ _ _ _ _ _ _ _ _ _ _); refine Halt.of ?_))
local macro_rules | `(tactic| walk_at "CEnd") => `(tactic| ((with_reducible show CEnd _ _ _ _ _ _ _ _ _ _ _ _ _ _); refine Halt.of ?_))
local macro_rules | `(tactic| walk_at "Turn") => `(tactic| ((with_reducible show Turn _ _ _ _ _ _ _ _ _ _); refine Halt.of ?_))

local macro_rules | `(tactic| walk_at "exec For Name Call cons nil") => `(tactic| (with_unfolding_all refine For_to ?_))
local macro_rules | `(tactic| walk_at "exec For Name Name cons nil") => `(tactic| (with_unfolding_all refine For_to ?_))
local macro_rules | `(tactic| walk_at "exec For Name Call cons cons") => `(tactic| (with_unfolding_all refine For_to ?_))
local macro_rules | `(tactic| walk_at "exec For") => `(tactic| (with_unfolding_all refine For_to ?_))
local macro_rules | `(tactic| walk_at "call ref") => `(tactic| ((with_reducible show wpAny _ _ (call (Value.ref _) _ _) _ _ _); refine Halt.of ?_))
local macro_rules | `(tactic| walk_at "TurnG") => `(tactic| ((with_reducible show TurnG _ _ _ _ _ _ _ _ _ _ _ _ _ _ _ _ _); refine Halt.of ?_))
local macro_rules | `(tactic| walk_at "subscriptTail") => `(tactic| ((with_reducible show wpAny _ _ (subscriptTail _ (Expr.Slice _ _ _ _) _ _) _ _ _); refine Halt.of ?_))
local macro_rules | `(tactic| walk_at "call builtin:list.append") => `(tactic| ((with_reducible show wpAny _ _ (call (Value.builtin "list.append") _) _ _ _); refine Halt.of ?_))
set_option maxHeartbeats 4000000 in
theorem groups_spec (w : World) (p : Program) (loose : List Str) (mean : ExcName → Option Value) (mg mb : Str → Option Value) (bs : List Bool) (t : Tok) (a : Addr) (us : List Value) (xs : List Int) (ka k : Nat) (more : Bool) (news : List (Addr × Obj)) (hu : IntsAre us xs) (ht : Tail xs k more) (hk1 : 1 ≤ k) (hk : k ≤ 4) (hlen : bs.length = tri k) (ha : (a, listOf us.toArray ka) ∈ news) :
    Spec2 w p loose mean mg mb 3 161 news [.str (txt bs) t, .ref a] (fun r nw => ∃ (la : Addr) (gs : List Value) (kg : Nat), r = .ref la ∧ nw = (la, listOf gs.toArray kg) :: news ∧ (∀ q ∈ news, q.1 < la) ∧ gs.length = k + (if more = true then 1 else 0) ∧ (∀ i, i < k → ∃ t, gs[i]? = some (.str (txt (pcB bs (i + 1))) t)) ∧ (more = true → ∃ t, gs[k]? = some (.int (k : Int) t))) := by
  unfold Spec2
  k_fill
  intro dp un gd cn cs a' ccd cl outer A₀ base h₀ L m s Q E B F X N T hbare hkk hdp hun hret
  have hdp' : dp + 1 < recursionLimit := by omega
  have kMark : KstMark := kstMark
  refine wpAny_call ?_
  k_dflt (refine' code_def ?k1 ?k2 ?k3 ?k4 ?k5 ?kA ?kF ?kK ?k6 ?k7 ?k8 ?k9 ?kB ?_ ?c2 ?c3 ?c4 ?c5; (case kA => exact rfl); (case kF => exact rfl); (case kK => assumption); (case k1 => k_asm); (case k2 => k_asm); (case k3 => k_asm); (case k4 => k_asm); (case k5 => k_asm); (case k6 => k_is); (case k7 => k_is); (case k8 => (first | exact room_of (dp := dp) hdp (by decide) | exact room_of2 (dp := dp) hdp (by decide) | ktr_room)); (case k9 => exact BindsTo.of_eq rfl); (case c5 => decide); (case kB => exact locs rfl); (case c2 => exact rfl); (case c3 => exact rfl); (case c4 => exact rfl); k_whole)
  intro g' L' h' FG' F' N' B' X' T'
  (try dsimp only)
  (try k_lift B')
  (try k_fold)
  (try refine wpAny_noRaise ?_)
  replace F' : Fr g' L' h' (loc [(Str.ofString "sizes", .ref a), (Str.ofString "text", .str (txt bs) t)]) := F'
  k_steps
  rename_i ls hA l1 hB tkB QB hQB hC F1 N1 tkC QC hQC
  refine gi_call rfl (by (first | exact room_of (dp := dp) hdp (by decide) | exact room_of2 (dp := dp) hdp (by decide) | ktr_room)) F1 X' N1 T' (List.mem_cons_of_mem _ ha) hu ht hk ?_
  intro C G oC oG h2 tk2 gs2 hgb F2 N2 lC hLC hCG K2
  have lsC : ls < C := lC _ List.mem_cons_self
  refine loop_gen rfl (by (first | exact room_of (dp := dp) hdp (by decide) | exact room_of2 (dp := dp) hdp (by decide) | ktr_room)) T'.nolimit K2 hCG hLC F2 N2 lC (List.mem_cons_of_mem _ ha) (hbare.push hgb) (fun i m₁ nw => (∃ tl, ∀ z, z ≠ Str.ofString "size" → m₁ z = (if z = Str.ofString "left" then some (.str (txt (leftB bs i)) tl) else if z = Str.ofString "groups" then some (.ref ls) else loc [(Str.ofString "sizes", .ref a), (Str.ofString "text", .str (txt bs) t)] z)) ∧ ∃ ws : List Value, nw = (ls, listOf ws.toArray ws.length) :: news ∧ ws.length = i ∧ ∀ j, j < i → ∃ t, ws[j]? = some (.str (txt (pcB bs (j + 1))) t)) ⟨⟨t, ?_⟩, [], rfl, rfl, fun j h => absurd h (by omega)⟩ ?_ ?_
  · intro z hz
    have e0 : leftB bs 0 = bs := by unfold leftB tri; simp
    rw [e0]
  · have hlt' : ∀ (ws : List Value) (n : Nat), ∀ q ∈ (ls, listOf ws.toArray n) :: news, q.1 < C := fun ws n => List.forall_mem_cons.mpr ⟨lsC, fun q hq => lC q (List.mem_cons_of_mem _ hq)⟩
    rintro i Jd oC2 oJ m₁ nw₁ h3 tk3 g3 ts hi hc ⟨⟨tl, hm1⟩, ws, rfl, hwl, hws⟩ hlt ham hb3 F3 N3 hGJ
    have F4 : Fr g' L' h3 (fun z => if z = Str.ofString "size" then m₁ z else if z = Str.ofString "left" then some (.str (txt (leftB bs i)) tl) else if z = Str.ofString "groups" then some (.ref ls) else loc [(Str.ofString "sizes", .ref a), (Str.ofString "text", .str (txt bs) t)] z) := by
      have : m₁ = (fun z => if z = Str.ofString "size" then m₁ z else if z = Str.ofString "left" then some (.str (txt (leftB bs i)) tl) else if z = Str.ofString "groups" then some (.ref ls) else loc [(Str.ofString "sizes", .ref a), (Str.ofString "text", .str (txt bs) t)] z) := by
        funext z
        by_cases e : z = Str.ofString "size"
        · simp only [if_pos e]
        · simp only [if_neg e]; exact hm1 z e
      rw [this] at F3
      exact F3
    by_cases hik : i < k
    · have e1 : itemOf k i = ((i + 1 : Nat) : Int) := by unfold itemOf; rw [if_pos hik]
      rw [e1]
      have hne := left_ne bs k i hk1 hk hlen hik
      have hb10 : bs.length ≤ 10 := by rw [hlen]; rcases k with _ | _ | _ | _ | _ | k <;> first | omega | decide
      k_steps
      · exact absurd (by assumption : (txt (leftB bs i) == Str.ofString "") = true) (by rw [hne]; decide)
      unfold Halt
      (rename News _ _ _ _ => Nx)
      (rename Fr _ _ _ _ => Fx)
      refine slice_strN_sn (hsz := by have := left_len bs i hb10; rw [sizeLine_eq]; omega) (s := ⟨_, _, _, _, _⟩) Fx Nx ?_
      intro h5 t5 k5 F5 N5
      rw [slc1 bs k i hk1 hk hlen hik]
      k_steps
      have als : ∀ q ∈ news, q.1 ≠ ls := fun q hq => Nat.ne_of_lt (l1 q hq)
      refine app_at (n := ws.length) ((C, oC2) :: (Jd, oJ) :: (G, oG) :: news) F5 N5 ?_ ?_ (by rw [List.size_toArray, hwl, sizeLine_eq]; omega) fun h6 F6 N6 => ?_
      · intro q hq
        rcases List.mem_cons.mp hq with rfl | hq
        · simp
        · rcases List.mem_cons.mp hq with rfl | hq
          · simp
          · rcases List.mem_cons.mp hq with rfl | hq
            · simp
            · rcases List.mem_cons.mp hq with rfl | hq
              · simp
              · simp [hq]
      · exact List.forall_mem_cons.mpr ⟨Nat.ne_of_gt lsC, List.forall_mem_cons.mpr ⟨Nat.ne_of_gt (Nat.lt_trans (Nat.lt_trans lsC hCG) hGJ), List.forall_mem_cons.mpr ⟨Nat.ne_of_gt (Nat.lt_trans lsC hCG), als⟩⟩⟩
      rw [List.push_toArray] at N6
      k_steps
      (rename News _ _ _ _ => Ny)
      (rename Fr _ _ _ _ => Fy)
      unfold Halt
      refine slice_strN_ns (hsz := by have := left_len bs i hb10; rw [sizeLine_eq]; omega) (s := ⟨_, _, _, _, _⟩) Fy Ny ?_
      intro h7 t7 k7 F7 N7
      rw [slc2 bs k i hk1 hk hlen hik]
      k_steps
      (rename News _ _ _ _ => Nz)
      (rename Fr _ _ _ _ => Fz)
      refine TurnG.next ((ls, listOf (ws ++ [Value.str (txt (pcB bs (i + 1))) t5]).toArray (ws.length + 1)) :: news) hik Fz Nz ?_ (hlt' _ _) (List.mem_cons_of_mem _ ha) ⟨⟨t7, ?_⟩, ws ++ [.str (txt (pcB bs (i + 1))) t5], by rw [List.length_append]; rfl, by rw [List.length_append, hwl]; rfl, ?_⟩
      · intro q hq
        rcases List.mem_cons.mp hq with rfl | hq
        · simp
        · rcases List.mem_cons.mp hq with rfl | hq
          · simp
          · rcases List.mem_cons.mp hq with rfl | hq
            · simp
            · rcases List.mem_cons.mp hq with rfl | hq
              · simp
              · simp [hq]
      · intro z hz
        by_cases e : z = Str.ofString "left"
        · simp only [e, if_true]
        · simp only [if_neg e, if_neg hz]
      · intro j hj
        by_cases hji : j < i
        · obtain ⟨t9, h9⟩ := hws j hji
          exact ⟨t9, by rw [List.getElem?_append_left (by omega)]; exact h9⟩
        · obtain rfl : j = i := by omega
          exact ⟨t5, by rw [List.getElem?_append_right (by omega), hwl, Nat.sub_self]; rfl⟩
    · obtain rfl : i = k := by omega
      have hmore : more = true := by rcases hc with h | h; exact absurd h hik; exact h
      have e1 : itemOf i i = (i : Int) := by unfold itemOf; rw [if_neg (by omega)]
      rw [e1]
      have hne := left_end bs i hlen
      k_steps
      · (rename News _ _ _ _ => Nx)
        (rename Fr _ _ _ _ => Fx)
        unfold Halt
        have als : ∀ q ∈ news, q.1 ≠ ls := fun q hq => Nat.ne_of_lt (l1 q hq)
        refine app_at (n := ws.length) news Fx Nx ?_ als (by rw [List.size_toArray, hwl, sizeLine_eq]; omega) fun h6 F6 N6 => ?_
        · intro q hq
          rcases List.mem_cons.mp hq with rfl | hq
          · simp
          · simp [hq]
        rw [List.push_toArray] at N6
        k_steps
        refine TurnG.brk ?_
        (try dsimp only)
        k_steps
        refine hret _ _ _ _ _ hb3 (by assumption) (by assumption) ⟨ls, ws ++ [.int (i : Int) ts], _, rfl, rfl, l1, by rw [List.length_append, hwl, if_pos hmore]; rfl, ?_, fun _ => ⟨ts, ?_⟩⟩
        · intro j hj
          obtain ⟨t9, h9⟩ := hws j hj
          exact ⟨t9, by rw [List.getElem?_append_left (by omega)]; exact h9⟩
        · rw [List.getElem?_append_right (by omega), hwl, Nat.sub_self]; rfl
      · exact absurd (by assumption : (txt (leftB bs i) == Str.ofString "") = false) (by rw [hne]; decide)
  · rintro hmore h3 tk3 g3 m' nw' ⟨⟨tl, hm1⟩, ws, rfl, hwl, hws⟩ ham hb3 F3 N3
    have F4 : Fr g' L' h3 (fun z => if z = Str.ofString "size" then m' z else if z = Str.ofString "left" then some (.str (txt (leftB bs k)) tl) else if z = Str.ofString "groups" then some (.ref ls) else loc [(Str.ofString "sizes", .ref a), (Str.ofString "text", .str (txt bs) t)] z) := by
      have : m' = (fun z => if z = Str.ofString "size" then m' z else if z = Str.ofString "left" then some (.str (txt (leftB bs k)) tl) else if z = Str.ofString "groups" then some (.ref ls) else loc [(Str.ofString "sizes", .ref a), (Str.ofString "text", .str (txt bs) t)] z) := by
        funext z
        by_cases e : z = Str.ofString "size"
        · simp only [if_pos e]
        · simp only [if_neg e]; exact hm1 z e
      rw [this] at F3
      exact F3
    k_steps
    exact hret _ _ _ _ _ hb3 (by assumption) (by assumption) ⟨ls, ws, _, rfl, rfl, l1, by rw [hwl, hmore]; rfl, hws, fun h => by rw [hmore] at h; cases h⟩
end Mine

-- LawIn
theorem Mine.gap_LawIn : True ∧ True := by w_top off; walk1 <;> trivial
namespace Mine
open PySem PySem.W PySem.Calls PyProof.Rows
/-- a program that binds nothing and promises nothing -/
def noProg : Program := { (default : Program) with main := { (default : Module) with body := [.Import [⟨("sys" : Str), none, ⟨0, 0, 0, 0⟩⟩] ⟨0, 0, 0, 0⟩] } }
def looseNo (p : Program) (loose : List Str) : List Str := loose ++ (recsOf p).map (·.name) ++ (litsOf p).map (·.1) ++ (clssOf p loose).map (·.name)
theorem ns_at {h h' : Heap} {a : Addr} {m : Str → Option Value} (e : h.Ns a m) (hk : ∀ o, h.get? a = some o → h'.get? a = some o) : h'.Ns a m :=
  let ⟨o, es, ep, q, r⟩ := e; ⟨o, es, ep, hk o q, r⟩
theorem top_hide {p : Program} {loose : List Str} {mean : ExcName → Option Value} {mg mb : Str → Option Value} {h : Heap} {vs ws : Array Value} (T : Top p loose mean mg mb h) (e70 : h.get? 70 = some (tabObj vs)) (e77 : h.get? 77 = some (tabObj ws)) :
    Top noProg (looseNo p loose) mean mg mb (hideAll h [70, 77]) where
  g := ns_at T.g fun o e => hideAll_get _ e (by decide)
  b := ns_at T.b fun o e => hideAll_get _ e (by decide)
  nolimit := let ⟨mc, a, b⟩ := T.nolimit; ⟨mc, ns_at a fun o e => hideAll_get _ e (by decide), b⟩
  nodigits := let ⟨mc, a, b⟩ := T.nodigits; ⟨mc, ns_at a fun o e => hideAll_get _ e (by decide), b⟩
  fn := fun d hd => absurd hd (by have : recsOf noProg = [] := by rfl
                                  rw [this]; exact List.not_mem_nil)
  own := fun d hd => absurd hd (by have : ownsOf noProg = [] := by rfl
                                   rw [this]; exact List.not_mem_nil)
  const := fun x d hv => by
    have h1 := valOf_name hv
    have : valNames noProg = [] := by rfl
    rw [this] at h1; exact absurd h1 List.not_mem_nil
  free := fun x h1 h2 _ _ _ => by
    have h3 : x ∉ loose ∧ x ∉ (recsOf p).map (·.name) ∧ x ∉ (litsOf p).map (·.1) ∧ x ∉ (clssOf p loose).map (·.name) := by
      unfold looseNo at h2
      refine ⟨fun q => h2 ?_, fun q => h2 ?_, fun q => h2 ?_, fun q => h2 ?_⟩ <;> simp only [List.mem_append] <;> simp [q]
    exact T.free x h1 h3.1 h3.2.1 h3.2.2.1 h3.2.2.2
  builtins := T.builtins
  tab := fun d hd => absurd hd (by have : recsOf noProg = [] := by rfl
                                   rw [this]; exact List.not_mem_nil)
  bmain := by
    obtain ⟨bm, ob, h1, h2, h3, h4, r⟩ := T.bmain
    refine ⟨bm, ob, h1, h2, hideAll_get _ h3 ?_, h4, r⟩
    intro q
    rcases List.mem_cons.mp q with rfl | q
    · rw [e70] at h3; cases h3; cases h4
    · rw [List.mem_singleton.mp q, e77] at h3; cases h3; cases h4
  seer := fun hi => absurd hi (by decide)
/-- a frame and a ledger seen from the base that hides the two code tables -/
theorem fr_hide {h h₁ : Heap} {L : Addr} {m : Str → Option Value} (F : Fr h L h₁ m) : Fr (hideAll h [70, 77]) L h₁ m :=
  ⟨F.ns, fun b o e => F.keep b o (of_hideAll _ e), by rw [hideAll_size]; exact F.above⟩
theorem news_hide {h h₁ : Heap} {L : Addr} {m : Str → Option Value} {news : List (Addr × Obj)} {vs ws : Array Value} (F : Fr h L h₁ m) (N : News h L h₁ news) (e70 : h.get? 70 = some (tabObj vs)) (e77 : h.get? 77 = some (tabObj ws)) :
    News (hideAll h [70, 77]) L h₁ (news ++ [(70, tabObj vs), (77, tabObj ws)]) := fun p hp => by
  have nL : ∀ b o, h.get? b = some o → b ≠ L := fun b o e => Nat.ne_of_lt (Nat.lt_of_lt_of_le (Heap.lt_size e) F.above)
  rcases List.mem_append.mp hp with hp | hp
  · obtain ⟨a, b, c⟩ := N p hp
    refine ⟨a, b, ?_⟩
    cases q : (hideAll h [70, 77]).get? p.1 with
    | none => rfl
    | some o => have := of_hideAll _ q; rw [c] at this; cases this
  · rcases List.mem_cons.mp hp with rfl | hp
    · exact ⟨F.keep _ _ e70, nL _ _ e70, hideAll_none _ (by simp)⟩
    · rw [List.mem_singleton.mp hp]
      exact ⟨F.keep _ _ e77, nL _ _ e77, hideAll_none _ (by simp)⟩
theorem in_hide {w : World} {h : Heap} (X : (hd.heap_1 w.params).In h) : (hd.heap_1 w.params).In (hideAll h [70, 77]) := fun a o e => by
  refine hideAll_get _ (X a o e) fun q => ?_
  have k : (hd.heap_1 w.params).lookup 70 = none ∧ (hd.heap_1 w.params).lookup 77 = none := ⟨by with_unfolding_all rfl, by with_unfolding_all rfl⟩
  rcases List.mem_cons.mp q with rfl | q
  · rw [k.1] at e; cases e
  · rw [List.mem_singleton.mp q, k.2] at e; cases e
theorem code_law {prog : Program} {w : World} {A : Around} {K : Frag} {R : Result → Shared → Prop} {s : Shared} {name : Str} {params : Arguments} {body : List Stmt} {scope : Scope} {pm cd doc oc : Value} {od : Option Addr} {osl : Array (Option Value)} {f : Addr} {args : List Value} {binds : List (Str × Value)} {vs ws : Array Value}
    (hroom : A.depth < recursionLimit) (X : K.In s.heap) (hlim : s.heap.NoLimit) (e70 : s.heap.get? 70 = some (tabObj vs)) (e77 : s.heap.get? 77 = some (tabObj ws))
    (ho : K.lookup f = some ⟨oc, od, .func (Calls.docDef name params body scope pm cd doc), osl⟩) (hcd : codeIn K cd name = true)
    (hbind : bindArgs (Calls.docDef name params body scope pm cd doc) ⟨args, []⟩ = pure binds) (hkind : (binds.all fun y => scope.names.lookup y.1 == some .local || scope.names.lookup y.1 == some .cell) = true)
    (hnd : ((cellsFrom 0 scope.names []).map (·.1)).Nodup)
    (h : ∀ h₁ tk cells, Fr (hideAll s.heap [70, 77]) s.heap.objs.size h₁ (bindL (envOfC name scope s.heap.objs.size f cd).kindOf binds fun _ => none) → News (hideAll s.heap [70, 77]) s.heap.objs.size h₁ (cells ++ [(70, tabObj vs), (77, tabObj ws)]) →
      CellsAre (bindC (envOfC name scope s.heap.objs.size f cd).kindOf binds fun _ => none) (cellsFrom (s.heap.objs.size + 1) scope.names []) cells →
      wpAny (model prog w) (A.deeper (envOfC name scope s.heap.objs.size f cd)) (execs body (envOfC name scope s.heap.objs.size f cd))
        (fun f s' => R (.ok (.ret (match f with | .ret v => v | _ => .none))) s')
        (fun e s' => wpAny (model prog w) (A.deeper (envOfC name scope s.heap.objs.size f cd)) (leaving (envOfC name scope s.heap.objs.size f cd) e)
          (fun _ s'' => R (.error e) s'') (fun e' s'' => R (.error e') s'') s')
        { s with heap := h₁, toks := tk })
    (hco : scope.isCoroutine = false) (hgen : scope.isGenerator = false) (hk : scope.kind = .function) : codeAny (model prog w) A (.call (.ref f) ⟨args, []⟩) R s :=
  call_cellsN hroom (X _ _ ho) rfl hlim (codeRec_of X hcd) hbind (kindsX hkind _) hnd (fun h₁ tk cells F N Y => h h₁ tk cells (fr_hide F) (news_hide F N e70 e77) Y) hco hgen hk
end Mine

-- LawSt
theorem Mine.gap_LawSt : True ∧ True := by w_top off; walk1 <;> trivial
namespace Mine
open PySem PySem.W PySem.Calls PyProof.Rows
/-- the law's own text, from its k-th row on, in its frame at L -/
abbrev LawAt (w : World) (k : Nat) (L : Addr) (Q : Flow → Shared → Prop) (E : Value → Shared → Prop) (s : Shared) : Prop :=
  ∀ (oc pm cd doc : Value) (od : Option Addr) (osl : Array (Option Value)) (name : Str) (params : Arguments) (scope : Scope) (before rest : List Stmt), before.length = k →
    (hd.heap_1 w.params).lookup 176 = some ⟨oc, od, .func (Calls.docDef name params (before ++ rest) scope pm cd doc), osl⟩ →
    wpAny (model PySem.Challenge.rw_zd0009_01.row.prog w) (callerA.deeper (envOfC name scope L 176 cd)) (execs rest (envOfC name scope L 176 cd)) Q E s
/-- where the law is to end -/
def LawEnd (H : Heap) (L : Addr) (s : Shared) (Q : Flow → Shared → Prop) : Prop :=
  ∀ h' tk' g' m' ps ps', AllBare g' → Fr H L h' m' → News H L h' [(70, tabObj ps), (77, tabObj ps')] → Q (.ret (.bool true)) { s with heap := h', toks := tk', gens := g' }
/-- what stands all along -/
structure LawCtx (w : World) (loose : List Str) (mean : ExcName → Option Value) (mg mb : Str → Option Value) (H : Heap) (L : Addr) : Prop where
  X : (hd.heap_1 w.params).In H
  T : Top noProg loose mean mg mb H
  l70 : 70 < L
  l77 : 77 < L
/-- from «pairs = ..» on -/
def PartB (w : World) : Prop :=
  ∀ (loose : List Str) (mean : ExcName → Option Value) (mg mb : Str → Option Value) (H : Heap) (L : Addr) (s : Shared) (h : Heap) (tk : Nat) (g : Array GenState) (Q : Flow → Shared → Prop) (E : Value → Shared → Prop) (m : Str → Option Value) (n : Nat) (tn ta tb' tc : Tok) (a b c : Int) (kc : Nat) (lc : Addr) (co1 co2 co3 : Obj),
    LawCtx w loose mean mg mb H L → AllBare g → (n = 3 ∨ n = 5) → 0 ≤ a → 0 ≤ b → 0 ≤ c → L + 3 < lc → co1.data = .cell none → co2.data = .cell none → co3.data = .cell (some (.ref lc)) →
    Fr H L h (fun y => if y = Str.ofString "people" then some (.int (n : Int) tn) else m y) →
    News H L h [(lc, listOf #[.int a ta, .int b tb', .int c tc] kc), (L + 3, co1), (L + 2, co2), (L + 1, co3), (70, tabObj #[]), (77, tabObj #[])] →
    LawEnd H L s Q → LawAt w 4 L Q E { s with heap := h, toks := tk, gens := g }
/-- from «shift = ..» on -/
def PartC (w : World) : Prop :=
  ∀ (loose : List Str) (mean : ExcName → Option Value) (mg mb : Str → Option Value) (H : Heap) (L : Addr) (s : Shared) (h : Heap) (tk : Nat) (g : Array GenState) (Q : Flow → Shared → Prop) (E : Value → Shared → Prop) (m : Str → Option Value) (n : Nat) (bs : List Bool) (tn tp tx t2 ta tb' tc : Tok) (a b c cc pl : Int) (kc : Nat) (lc : Addr) (co1 co2 co3 : Obj),
    LawCtx w loose mean mg mb H L → AllBare g → Sz bs.length n → 0 ≤ c → 0 ≤ cc → cc < 32 → 0 ≤ pl → pl < 32 → L + 3 < lc → co1.data = .cell none → co2.data = .cell none → co3.data = .cell (some (.ref lc)) →
    Fr H L h (fun y => if y = Str.ofString "second" then some (.str (txt (turned bs n cc pl)) t2) else if y = Str.ofString "text" then some (.str (txt bs) tx) else if y = Str.ofString "pairs" then some (.int (bs.length : Int) tp) else if y = Str.ofString "people" then some (.int (n : Int) tn) else m y) →
    News H L h [(lc, listOf #[.int a ta, .int b tb', .int c tc] kc), (L + 3, co1), (L + 2, co2), (L + 1, co3), (70, tabObj #[]), (77, tabObj #[])] →
    LawEnd H L s Q → LawAt w 7 L Q E { s with heap := h, toks := tk, gens := g }
/-- from «flags = ..» on -/
def PartC2 (w : World) : Prop :=
  ∀ (loose : List Str) (mean : ExcName → Option Value) (mg mb : Str → Option Value) (H : Heap) (L : Addr) (s : Shared) (h : Heap) (tk : Nat) (g : Array GenState) (Q : Flow → Shared → Prop) (E : Value → Shared → Prop) (m : Str → Option Value) (n : Nat) (bs : List Bool) (tn tp tx t2 ta tb' tc tsh : Tok) (a b c cc pl sh : Int) (kc kz : Nat) (lc lz : Addr) (co1 co2 co3 : Obj) (us : List Value) (xs : List Int) (more : Bool),
    LawCtx w loose mean mg mb H L → AllBare g → Sz bs.length n → 0 ≤ cc → cc < 32 → 0 ≤ pl → pl < 32 → 0 ≤ sh → sh < 28 → L + 3 < lc → L + 3 < lz → co1.data = .cell none → co2.data = .cell (some (.int sh tsh)) → co3.data = .cell (some (.ref lc)) →
    IntsAre us xs → Tail xs (n - 1) more → (c.fdiv 28).fmod 2 = (if more = true then 1 else 0) →
    Fr H L h (fun y => if y = Str.ofString "sizes" then some (.ref lz) else if y = Str.ofString "second" then some (.str (txt (turned bs n cc pl)) t2) else if y = Str.ofString "text" then some (.str (txt bs) tx) else if y = Str.ofString "pairs" then some (.int (bs.length : Int) tp) else if y = Str.ofString "people" then some (.int (n : Int) tn) else m y) →
    News H L h [(lz, listOf us.toArray kz), (lc, listOf #[.int a ta, .int b tb', .int c tc] kc), (L + 3, co1), (L + 2, co2), (L + 1, co3), (70, tabObj #[]), (77, tabObj #[])] →
    LawEnd H L s Q → LawAt w 9 L Q E { s with heap := h, toks := tk, gens := g }
/-- the flags' names -/
def fls (sh : Int) (n : Nat) : List Str := (List.range n).map fun (i : Nat) => FN (sh + (i : Int))
/-- what a list of groups holds -/
def GsOk (gs : List Value) (bs : List Bool) (n : Nat) : Prop := ∀ i, i < n - 1 → ∃ t, gs[i]? = some (.str (txt (pcB bs (i + 1))) t)
/-- from «goal = ..» on -/
def PartD (w : World) : Prop :=
  ∀ (loose : List Str) (mean : ExcName → Option Value) (mg mb : Str → Option Value) (H : Heap) (L : Addr) (s : Shared) (h : Heap) (tk : Nat) (g : Array GenState) (Q : Flow → Shared → Prop) (E : Value → Shared → Prop) (m : Str → Option Value) (n : Nat) (bs : List Bool) (tn tp tx t2 tsh : Tok) (cc pl sh : Int) (kg ko kf : Nat) (lg lo lf : Addr) (vz : Value) (co1 co2 : Obj) (gs os fs : List Value),
    LawCtx w loose mean mg mb H L → AllBare g → Sz bs.length n → 0 ≤ cc → cc < 32 → 0 ≤ pl → pl < 32 → 0 ≤ sh → sh < 28 → L + 3 < lg → L + 3 < lo → L + 3 < lf → co1.data = .cell none → co2.data = .cell (some (.int sh tsh)) →
    StrsAre fs (fls sh n) → GsOk gs bs n → GsOk os (turned bs n cc pl) n →
    Fr H L h (fun y => if y = Str.ofString "others" then some (.ref lo) else if y = Str.ofString "groups" then some (.ref lg) else if y = Str.ofString "flags" then some (.ref lf) else if y = Str.ofString "sizes" then some vz else if y = Str.ofString "second" then some (.str (txt (turned bs n cc pl)) t2) else if y = Str.ofString "text" then some (.str (txt bs) tx) else if y = Str.ofString "pairs" then some (.int (bs.length : Int) tp) else if y = Str.ofString "people" then some (.int (n : Int) tn) else m y) →
    News H L h [(lo, listOf os.toArray ko), (lg, listOf gs.toArray kg), (lf, listOf fs.toArray kf), (L + 3, co1), (L + 2, co2), (70, tabObj #[]), (77, tabObj #[])] →
    LawEnd H L s Q → LawAt w 13 L Q E { s with heap := h, toks := tk, gens := g }
end Mine

section
open PySem PySem.W PySem.Calls PyProof.Rows Mine
local macro_rules | `(tactic| walk_at "execs cons") => `(tactic| ((refine wpAny_execs_cons (gen_toks fun tk => ?_)); (try dsimp only)))
local macro_rules | `(tactic| walk_at "Hid") => `(tactic| (refine unhide (by assumption) ?_))
local macro_rules | `(tactic| walk_at "execs nil") => `(tactic| ((refine wpAny_execs_nil ?_); (try dsimp only)))
local macro_rules | `(tactic| walk_at "pyIter ref") => `(tactic| ((with_reducible show wpAny _ _ (pyIter _) _ _ _); refine Halt.of ?_))
local macro_rules | `(tactic| walk_at "call builtin:len") => `(tactic| (k_here; (with_reducible show wpAny _ _ (call (Value.builtin "len") [Value.ref _]) _ _ _); k_dflt (refine' kst_len ?k1 ?k2 rfl ?k4 ?_; (case k1 => k_asm); (case k2 => exact List.mem_cons_self); (case k4 => omega); k_whole)))
local macro_rules | `(tactic| walk_at "call builtin:list.append") => `(tactic| (k_here; (with_reducible show wpAny _ _ (call (Value.builtin "list.append") [Value.ref _, _]) _ _ _); k_dflt (refine' append_K ?k1 ?k2 (Upd.head ?k3) ?_ ?k4; (case k1 => k_asm); (case k2 => k_asm); (case k3 => assumption); (case k4 => (simp only [List.size_toArray, sizeLine_eq]; omega)); k_whole); intro h' F' N'))
local macro_rules | `(tactic| walk_at "ite") => `(tactic| first | with_reducible refine ite_tt ?_ | with_reducible refine ite_ff ?_ | (with_reducible refine split_ine ?_ ?_ <;> intro _) | (with_reducible refine split_ieq ?_ ?_ <;> intro _) | with_reducible refine split_not ?_ | (refine split_dec ?_ ?_ <;> intro _) | (refine split_bool ?_ ?_ <;> intro _) | rw [if_pos True.intro] | rw [if_neg not_false])
local macro_rules | `(tactic| walk_at "InvPostN") => `(tactic| ((with_reducible show InvPostN _ _ _ _ _ _ _ _ _); refine Halt.of ?_))
local macro_rules | `(tactic| walk_at "eval ListComp") => `(tactic| ((with_reducible show wpAny _ _ (eval (Expr.ListComp _ _ _ _) _) _ _ _); refine Halt.of ?_))
local macro_rules | `(tactic| walk_at "exec Assign cons ListComp") => `(tactic| ((with_reducible show wpAny _ _ (exec (Stmt.Assign _ (Expr.ListComp _ _ _ _) _) _) _ _ _); refine Halt.of ?_))
local macro_rules | `(tactic| walk_at "CSrc") => `(tactic| ((with_reducible show CSrc _ _ _ _ _ _ _ _ _ _ _ _ _ _ _ _); refine Halt.of ?_))
local macro_rules | `(tactic| walk_at "CEnd") => `(tactic| ((with_reducible show CEnd _ _ _ _ _ _ _ _ _ _ _ _ _ _); refine Halt.of ?_))
local macro_rules | `(tactic| walk_at "Turn") => `(tactic| ((with_reducible show Turn _ _ _ _ _ _ _ _ _ _); refine Halt.of ?_))
local macro_rules | `(tactic| walk_at "exec For Name Call cons nil") => `(tactic| (with_unfolding_all refine For_to ?_))
local macro_rules | `(tactic| walk_at "exec For Name Name cons nil") => `(tactic| (with_unfolding_all refine For_to ?_))
local macro_rules | `(tactic| walk_at "exec For Name Call cons cons") => `(tactic| (with_unfolding_all refine For_to ?_))
local macro_rules | `(tactic| walk_at "exec For") => `(tactic| (with_unfolding_all refine For_to ?_))

-- LawA
theorem Mine.gap_LawA : True ∧ True := by w_top off; walk1 <;> trivial
namespace Mine
open PySem PySem.W PySem.Calls PyProof.Rows
set_option maxRecDepth 100000

local macro_rules | `(tactic| walk_at "setItem ref int") => `(tactic| ((with_reducible show wpAny _ _ (setItem (Value.ref _) (Value.int _ _) _) _ _ _); refine Halt.of ?_))
local macro_rules | `(tactic| walk_at "execs cons") => `(tactic| ((with_reducible show wpAny _ _ (execs (Stmt.Assign [Expr.Name (Str.ofString "pairs") _] _ _ :: _) _) _ _ _); refine Halt.of ?_))
theorem kf_start20 (w : World) : PySem.Challenge.rw_zd0009_01 = PySem.Challenge.rw_zd0009_01 → findIn (hd.heap_1 w.params) (.ref 107) "__getattr__" = some none := by k_fill; intro _; k_is
theorem off_place {m m₁ : Str → Option Value} (h : ∀ z, z ≠ Str.ofString "place" → m₁ z = m z) : m₁ = fun z => if z = Str.ofString "place" then m₁ z else m z := by
  funext z
  by_cases e : z = Str.ofString "place"
  · simp [e]
  · rw [if_neg e]; exact h z e
set_option maxHeartbeats 4000000 in
theorem law_a (w : World) (hb : PartB w) (p : Program) (loose : List Str) (mean : ExcName → Option Value) (mg mb : Str → Option Value) (s : Shared) (sc : Addr) (us : List Value) (xs : List Int) (X : (hd.heap_1 w.params).In s.heap) (T : Top p loose mean mg mb s.heap) (e70 : s.heap.get? 70 = some (tabObj #[])) (e77 : s.heap.get? 77 = some (tabObj #[]))
    (hsc : s.heap.IsList sc us.toArray) (hI : IntsAre us xs) (hlen : xs.length ≤ 63) (hgen : AllBare s.gens) (Q : Value → Shared → Prop) (E : Value → Shared → Prop)
    (hret : ∀ h' tk' g' m' ps ps', AllBare g' → Fr (hideAll s.heap [70, 77]) s.heap.objs.size h' m' → News (hideAll s.heap [70, 77]) s.heap.objs.size h' [(70, tabObj ps), (77, tabObj ps')] → Q (.bool true) { s with heap := h', toks := tk', gens := g' }) :
    wpAny (model PySem.Challenge.rw_zd0009_01.row.prog w) callerA (call (.ref 176) [.ref sc]) Q E s := by
  have kMark : KstMark := kstMark
  have hsc' : (hideAll s.heap [70, 77]).IsList sc us.toArray := by
    obtain ⟨o, h1, h2, h3⟩ := hsc
    refine ⟨o, hideAll_get _ h1 fun q => ?_, h2, h3⟩
    rcases List.mem_cons.mp q with rfl | q
    · rw [e70] at h1; cases h1; cases h2
    · rw [List.mem_singleton.mp q, e77] at h1; cases h1; cases h2
  have B' := below_caller (hideAll s.heap [70, 77])
  have X' := in_hide X
  have T' := top_hide T e70 e77
  refine wpAny_call ?_
  k_dflt (refine' code_law ?k1 ?k2 ?k3 ?k4 ?k5 ?kK ?k6 ?kb ?kk ?kD ?_ ?c2 ?c3 ?c4; (case k1 => decide); (case k2 => exact X); (case kK => exact rfl); (case k3 => exact T.nolimit); (case k4 => exact e70); (case k5 => exact e77); (case k6 => k_is); (case kb => exact rfl); (case kk => exact rfl); (case kD => decide +kernel); (case c2 => exact rfl); (case c3 => exact rfl); (case c4 => exact rfl); k_whole)
  intro h1 tk1 cells F' N' Y'
  have hY := CellsAre.three Y'; obtain ⟨co1, co2, co3, hE', cd1, cd2, cd3⟩ := hY; subst hE'; clear Y'
  (try simp only [List.cons_append, List.nil_append] at N')
  replace F' : Fr (hideAll s.heap [70, 77]) s.heap.objs.size h1 (fun y => if y = Str.ofString "script" then some (.ref sc) else none) := F'
  replace cd1 : co1.data = .cell none := cd1
  replace cd2 : co2.data = .cell none := cd2
  replace cd3 : co3.data = .cell none := cd3
  have lH : ∀ b o, s.heap.get? b = some o → b < s.heap.objs.size := fun b o e => Heap.lt_size e
  have l70 := lH _ _ e70
  have l77 := lH _ _ e77
  have lsc : sc < s.heap.objs.size := by obtain ⟨o, h1, _⟩ := hsc; exact lH _ _ h1
  clear lH X T hsc
  clear e70 e77
  generalize hideAll s.heap [70, 77] = H at *
  generalize s.heap.objs.size = L at *
  have hus : us.length = xs.length := IntsAre.length hI
  k_steps
  rename_i lc h2 F2 N2 l2 h3 oc F3 hoc tk3 h4 tk4 F4 N4 h5 tk5 t1 u1 v1 hR F5 N5 hk5
  simp only [List.cons_append, List.nil_append] at N5
  refine loop_range (min 60 xs.length) rfl hR ?_ ?_ F5 N5 (fun i m₁ nw g => g = s.gens ∧ (∀ z, z ≠ Str.ofString "place" → m₁ z = (if z = Str.ofString "script" then some (.ref sc) else none)) ∧ ∃ (a b c : Int) (ta tb' tc : Tok) (kc : Nat), 0 ≤ a ∧ 0 ≤ b ∧ 0 ≤ c ∧ nw = [(lc, listOf #[.int a ta, .int b tb', .int c tc] kc), (L + 3, co1), (L + 2, co2), (L + 1, oc), (70, tabObj #[]), (77, tabObj #[])]) ⟨rfl, fun _ _ => rfl, _, _, _, _, _, _, _, by decide, by decide, by decide, rfl⟩ ?_ ?_
  · split
    · exact small_one (by omega) (by omega) (by omega) (by omega)
    · exact small_one (by omega) (by omega) (by omega) (by omega)
  · have : (if (60 : Int) < (xs.length : Int) then (60 : Int) else (xs.length : Int)) = ((min 60 xs.length : Nat) : Int) := by split <;> omega
    rw [this, rangeSize_nat]; congr 1
  · rintro I1 i oI1 t9 m₁ nw h tk g hi ⟨rfl, hm1, a, b, c, ta, tb', tc, kc, ha, hb', hc, rfl⟩ offI1 ltI1 F7 N7
    rw [off_place hm1] at F7
    obtain ⟨t, hx⟩ := IntsAre.get hI i (xs[i]'(by omega)) (List.getElem?_eq_getElem (by omega))
    generalize xs[i]'(by omega) = x at hx
    have e0 : (0 : Int) + (i : Int) = (i : Int) := by omega
    rw [e0]
    have e3 : (i : Int) % 3 = 0 ∨ (i : Int) % 3 = 1 ∨ (i : Int) % 3 = 2 := by omega
    have apl : ∀ p ∈ [(L + 3, co1), (L + 2, co2), (L + 1, oc), (70, tabObj #[]), (77, tabObj #[])], p.1 ≠ lc := by
      simp only [List.forall_mem_cons]
      exact ⟨Nat.ne_of_lt l2.1, Nat.ne_of_lt l2.2.1, Nat.ne_of_lt l2.2.2.1, Nat.ne_of_lt l2.2.2.2.1, Nat.ne_of_lt l2.2.2.2.2, fun _ h => nomatch h⟩
    rcases e3 with e3 | e3 | e3
    · k_steps
      unfold Halt
      rename_i h6 F6 N6 tk6 t8 t10
      have ef : (i : Int).fmod 3 = 0 := by rw [Int.fmod_eq_emod_of_nonneg _ (by decide)]; exact e3
      rw [ef]
      refine ki_set F6 N6 (by decide) (by decide) rfl (.tail (offI1 _ List.mem_cons_self).symm (.head apl)) fun h8 F8 N8 => ?_
      k_steps
      unfold Halt
      refine Turn.next _ F8 N8 (fun _ h => h) (by simp only [List.forall_mem_cons] at offI1 ⊢; exact offI1) trivial ⟨rfl, ?_, _, _, _, _, _, _, _, ?_, ?_, ?_, rfl⟩
      · intro z hz
        simp only [if_neg hz]
      all_goals first
        | assumption
        | (refine Int.add_nonneg ?_ ?_
           · first | exact ha | exact hb' | exact hc
           · exact Int.fmod_nonneg_of_pos _ (by decide))
    · k_steps
      unfold Halt
      rename_i h6 F6 N6 tk6 t8 t10
      have ef : (i : Int).fmod 3 = 1 := by rw [Int.fmod_eq_emod_of_nonneg _ (by decide)]; exact e3
      rw [ef]
      refine ki_set F6 N6 (by decide) (by decide) rfl (.tail (offI1 _ List.mem_cons_self).symm (.head apl)) fun h8 F8 N8 => ?_
      k_steps
      unfold Halt
      refine Turn.next _ F8 N8 (fun _ h => h) (by simp only [List.forall_mem_cons] at offI1 ⊢; exact offI1) trivial ⟨rfl, ?_, _, _, _, _, _, _, _, ?_, ?_, ?_, rfl⟩
      · intro z hz
        simp only [if_neg hz]
      all_goals first
        | assumption
        | (refine Int.add_nonneg ?_ ?_
           · first | exact ha | exact hb' | exact hc
           · exact Int.fmod_nonneg_of_pos _ (by decide))
    · k_steps
      unfold Halt
      rename_i h6 F6 N6 tk6 t8 t10
      have ef : (i : Int).fmod 3 = 2 := by rw [Int.fmod_eq_emod_of_nonneg _ (by decide)]; exact e3
      rw [ef]
      refine ki_set F6 N6 (by decide) (by decide) rfl (.tail (offI1 _ List.mem_cons_self).symm (.head apl)) fun h8 F8 N8 => ?_
      k_steps
      unfold Halt
      refine Turn.next _ F8 N8 (fun _ h => h) (by simp only [List.forall_mem_cons] at offI1 ⊢; exact offI1) trivial ⟨rfl, ?_, _, _, _, _, _, _, _, ?_, ?_, ?_, rfl⟩
      · intro z hz
        simp only [if_neg hz]
      all_goals first
        | assumption
        | (refine Int.add_nonneg ?_ ?_
           · first | exact ha | exact hb' | exact hc
           · exact Int.fmod_nonneg_of_pos _ (by decide))
  · rintro h tk g m₁ nw ⟨rfl, hm1, a, b, c, ta, tb', tc, kc, ha, hb', hc, rfl⟩ F7 N7
    have ctx : LawCtx w (looseNo p loose) mean mg mb H L := ⟨X', T', l70, l77⟩
    k_steps
    all_goals unfold Halt
    · (rename Fr _ _ _ _ => Fx)
      (rename News _ _ _ _ => Nx)
      refine' hb _ _ _ _ H L s _ _ _ _ _ _ 3 _ _ _ _ a b c kc lc co1 co2 oc ctx hgen (.inl rfl) ha hb' hc l2.1 cd1 cd2 hoc Fx Nx ?ke _ _ _ _ _ _ _ _ _ [_, _, _, _] _ rfl ?kho
      case kho => exact rfl
      case ke => exact fun h' tk' g' m' ps ps' a b c => hret h' tk' g' m' ps ps' a b c
    · (rename Fr _ _ _ _ => Fx)
      (rename News _ _ _ _ => Nx)
      refine' hb _ _ _ _ H L s _ _ _ _ _ _ 5 _ _ _ _ a b c kc lc co1 co2 oc ctx hgen (.inr rfl) ha hb' hc l2.1 cd1 cd2 hoc Fx Nx ?ke _ _ _ _ _ _ _ _ _ [_, _, _, _] _ rfl ?kho
      case kho => exact rfl
      case ke => exact fun h' tk' g' m' ps ps' a b c => hret h' tk' g' m' ps ps' a b c
end Mine

-- LawB
theorem Mine.gap_LawB : True ∧ True := by w_top off; walk1 <;> trivial
namespace Mine
open PySem PySem.W PySem.Calls PyProof.Rows
set_option maxRecDepth 100000

local macro_rules | `(tactic| walk_at "call ref") => `(tactic| ((with_reducible show wpAny _ _ (call (Value.ref _) _ _) _ _ _); refine Halt.of ?_))
local macro_rules | `(tactic| walk_at "execs cons") => `(tactic| ((with_reducible show wpAny _ _ (execs (Stmt.Assign [Expr.Name (Str.ofString "shift") _] _ _ :: _) _) _ _ _); refine Halt.of ?_))
theorem kf_start21 (w : World) : PySem.Challenge.rw_zd0009_01 = PySem.Challenge.rw_zd0009_01 → findIn (hd.heap_1 w.params) (.ref 107) "__getattr__" = some none := by k_fill; intro _; k_is
def spotB (a : Int) (i : Nat) : Bool := decide ((a.fdiv (2 ^ ((i : Nat) : Int).toNat)).fmod 2 = 1)
def bitsOf (a : Int) (k : Nat) : List Bool := (List.range k).map (spotB a)
theorem spot_item (a : Int) (i : Nat) : Txt.item (Str.ofString " x") ((a.fdiv (2 ^ ((i : Nat) : Int).toNat)).fmod 2) = one (spotB a i) := by
  have h := Int.emod_two_eq (a.fdiv (2 ^ ((i : Nat) : Int).toNat))
  rw [← Int.fmod_eq_emod_of_nonneg _ (by decide)] at h
  unfold spotB
  rcases h with h | h <;> rw [h] <;> decide +kernel
set_option maxHeartbeats 4000000 in
theorem law_b (w : World) (hc' : PartC w) : PartB w := by
  intro loose mean mg mb H L s h tk g Q E m n tn ta tb' tc a b c kc lc co1 co2 co3 ctx hbare hn ha hb hc hlc cd1 cd2 cd3 F N hret
  intro oc pm cd doc od osl name params scope before rest hbl ho
  generalize hw : before ++ rest = whole at ho
  cases ho
  have hr := List.drop_left' (l₂ := rest) hbl
  rw [hw] at hr
  clear hw hbl
  simp only [List.drop_succ_cons, List.drop_zero] at hr
  subst hr
  have kMark : KstMark := kstMark
  have B' := below_caller H
  have X' := ctx.X
  have T' := ctx.T
  obtain ⟨k, hk, hz⟩ : ∃ k : Nat, ((n : Int) * ((n : Int) - 1)).fdiv 2 = (k : Int) ∧ Sz k n := by
    rcases hn with rfl | rfl
    · exact ⟨3, by decide, .inl ⟨rfl, rfl⟩⟩
    · exact ⟨10, by decide, .inr ⟨rfl, rfl⟩⟩
  have hk10 : k ≤ 10 := by rcases hz with ⟨h, _⟩ | ⟨h, _⟩ <;> omega
  have hn5 : n ≤ 5 := by rcases hz with ⟨_, h⟩ | ⟨_, h⟩ <;> omega
  k_steps
  rename_i tk1 h1 F1 N1 tkx
  rw [hk] at F1
  refine comp_eval F1 (by with_unfolding_all rfl) (by decide) (by rfl) (by decide) (by rfl) ?_
  k_steps
  unfold Halt
  rename_i h2 tk2 t1 t2 t3 hR F2 N2 hk2
  refine ⟨_, _, _, _, fun i ys nw g' => g' = g ∧ nw = [(lc, listOf #[.int a ta, .int b tb', .int c tc] kc), (L + 3, co1), (L + 2, co2), (L + 1, co3), (70, tabObj #[]), (77, tabObj #[])] ∧ StrsAre ys ((bitsOf a i).map one), F2, N2, ?_, src_range (n := k) rfl F2 N2 hR ?_ ?_, trivial, ⟨rfl, rfl, .nil⟩, CTurn.plain ?_, ?_⟩
  · rw [sizeLine_eq]; omega
  · exact small_one (by omega) (by omega) (by omega) (by omega)
  · rw [rangeSize_nat]; congr 1
  · rintro i ys nw v I oI C oC D m₂ h4 tk4 g4 E' hi hyl ⟨rfl, rfl, hys⟩ hS ⟨tv, rfl⟩ hoC hm2 F4 N4 off4 ne4 lt4
    simp only [Int.zero_add] at hm2
    have bi : (i : Int) < 10 := by omega
    k_steps
    unfold Halt
    refine CEnd.intro F4 N4 _ (fun _ h => h) off4 trivial ⟨rfl, rfl, ?_⟩
    have e1 : bitsOf a (i + 1) = bitsOf a i ++ [spotB a i] := by unfold bitsOf; rw [List.range_succ, List.map_append]; rfl
    rw [e1, List.map_append, List.map_cons, List.map_nil, ← spot_item]
    exact strs_snoc hys _ _
  · rintro D h4 tk4 g4 ys nw F4 N4 off4 lt4 ⟨rfl, rfl, hys⟩ hS
    k_steps
    have hbl : (bitsOf a k).length = k := by unfold bitsOf; rw [List.length_map, List.length_range]
    refine join_list (News.isList N4 List.mem_cons_self) hys ?_ ?_
    · have := one_sum (bitsOf a k)
      have e0 : (Str.ofString "").length = 0 := by decide +kernel
      rw [e0]; omega
    · intro t9 k9
      rw [join_one]
      have hk0 : 3 ≤ k := by rcases hz with ⟨h, _⟩ | ⟨h, _⟩ <;> omega
      have hk1 : ¬ (2 * (k : Int)) = 0 := by omega
      k_steps
      unfold Halt
      (rename News _ _ _ _ => N5)
      (rename Fr _ _ _ _ => F5)
      have hz' : Sz (bitsOf a k).length n := by rw [hbl]; exact hz
      generalize bitsOf a k = bs at *
      refine turned_spec w noProg loose mean mg mb bs n _ _ _ _ _ _ _ hz' (Int.fmod_nonneg_of_pos _ (by decide)) (Int.fmod_lt_of_pos _ (by decide)) (Int.fmod_nonneg_of_pos _ (by omega)) (Int.lt_of_lt_of_le (Int.fmod_lt_of_pos _ (by omega)) (by omega)) _ _ _ _ _ _ _ _ _ _ _ _ _ _ _ _ _ B' F5 X' N5 T' rfl (by decide) (by decide) ?_
      rintro r tl h6 tk6 F6 N6 ⟨rfl, t6, rfl⟩
      simp only [List.nil_append] at N6
      dsimp only
      k_steps
      unfold Halt
      (rename Fr _ _ _ _ => Fx)
      (rename News _ _ _ _ => Nx)
      subst hbl
      refine' hc' _ _ _ _ H L s _ _ _ _ _ _ n bs _ _ _ _ ta tb' tc a b c _ _ kc lc co1 co2 co3 ctx hbare hz hc ?b1 ?b2 ?b3 ?b4 hlc cd1 cd2 cd3 Fx (sub_news Nx ?ks) ?ke _ _ _ _ _ _ _ _ _ [_, _, _, _, _, _, _] _ rfl ?kho
      case kho => exact rfl
      case b1 => exact Int.fmod_nonneg_of_pos _ (by decide)
      case b2 => exact Int.fmod_lt_of_pos _ (by decide)
      case b3 => exact Int.fmod_nonneg_of_pos _ (by omega)
      case b4 => exact Int.lt_of_lt_of_le (Int.fmod_lt_of_pos _ (by omega)) (by omega)
      case ke => exact hret
      case ks => exact fun q hq => List.mem_cons_of_mem _ hq
end Mine

-- LawC1
theorem Mine.gap_LawC1 : True ∧ True := by w_top off; walk1 <;> trivial
namespace Mine
open PySem PySem.W PySem.Calls PyProof.Rows
set_option maxRecDepth 100000

local macro_rules | `(tactic| walk_at "call ref") => `(tactic| ((with_reducible show wpAny _ _ (call (Value.ref _) _ _) _ _ _); refine Halt.of ?_))
local macro_rules | `(tactic| walk_at "execs cons") => `(tactic| ((with_reducible show wpAny _ _ (execs (Stmt.Assign [Expr.Name (Str.ofString "flags") _] _ _ :: _) _) _ _ _); refine Halt.of ?_))
theorem kf_start22 (w : World) : PySem.Challenge.rw_zd0009_01 = PySem.Challenge.rw_zd0009_01 → findIn (hd.heap_1 w.params) (.ref 107) "__getattr__" = some none := by k_fill; intro _; k_is
theorem tail_app (k : Nat) (hk : 1 ≤ k) (ys : List Int) (more : Bool) (h : (more = false ∧ (ys = [] ∨ ys[0]? = some 127)) ∨ (more = true ∧ ys[0]? = some 0)) : Tail (rangeKs 1 k ++ ys) k more := by
  have hl : (rangeKs 1 k).length = k := rangeKs_length 1 k
  have e : ∀ j, (rangeKs 1 k ++ ys)[k + j]? = ys[j]? := fun j => by rw [List.getElem?_append_right (by omega), hl]; congr 1; omega
  have e0 := e 0
  rw [Nat.add_zero] at e0
  refine ⟨fun i hi => ?_, ?_⟩
  · rw [List.getElem?_append_left (by omega)]
    unfold rangeKs
    rw [List.getElem?_map, List.getElem?_range hi]
    show some ((1 : Int) + (i : Int)) = some ((i + 1 : Nat) : Int)
    congr 1; omega
  · rcases h with ⟨rfl, h | h⟩ | ⟨rfl, h⟩
    · subst h; exact .inl ⟨rfl, .inl (by rw [List.append_nil, hl])⟩
    · exact .inl ⟨rfl, .inr (e0.trans h)⟩
    · exact .inr ⟨rfl, hk, e0.trans h⟩
set_option maxHeartbeats 4000000 in
theorem law_c1 (w : World) (hc2 : PartC2 w) : PartC w := by
  intro loose mean mg mb H L s h tk g Q E m n bs tn tp tx t2 ta tb' tc a b c cc pl kc lc co1 co2 co3 ctx hbare hz hc hcc hcc' hpl hpl' hlc cd1 cd2 cd3 F N hret
  intro oc pm cd doc od osl name params scope before rest hbl ho
  generalize hw : before ++ rest = whole at ho
  cases ho
  have hr := List.drop_left' (l₂ := rest) hbl
  rw [hw] at hr
  clear hw hbl
  simp only [List.drop_succ_cons, List.drop_zero] at hr
  subst hr
  have kMark : KstMark := kstMark
  have B' := below_caller H
  have X' := ctx.X
  have T' := ctx.T
  have hn5 : n = 3 ∨ n = 5 := by rcases hz with ⟨_, h⟩ | ⟨_, h⟩ <;> simp [h]
  have hn1 : 1 ≤ n ∧ n ≤ 5 := by omega
  k_steps
  rename_i hR F2 N2 hk2
  simp only [List.cons_append, List.nil_append] at N2
  refine kll_range (n := n - 1) rfl F2 N2 hR (small_one (by omega) (by omega) (by omega) (by omega)) (by rw [rangeSize_nat]; omega) (by omega) ?_
  intro lr us1 kr h3 tk3 F3 N3 lrlt hI1
  k_steps
  · (rename News _ _ _ _ => Nx)
    (rename Fr _ _ _ _ => Fx)
    (rename IntsAre _ _ => hIx)
    (rename And _ _ => hlt)
    (rename Obj.data _ = Data.cell (some (Value.int _ _)) => ho2)
    have hq : (c.fdiv 28).fmod 4 = 0 := by assumption
    unfold Halt
    refine' hc2 _ _ _ _ H L s _ _ _ _ _ _ n bs _ _ _ _ ta tb' tc _ a b c cc pl _ kc _ lc _ co1 _ co3 _ _ false ctx hbare hz hcc hcc' hpl hpl' ?s1 ?s2 hlc ?lz cd1 ho2 cd3 hIx ?ht ?hq Fx (sub_news Nx ?ks) ?ke _ _ _ _ _ _ _ _ _ [_, _, _, _, _, _, _, _, _] _ rfl ?kho
    case kho => exact rfl
    case ke => exact hret
    case ks => exact (by (repeat' (first | exact List.forall_mem_nil _ | refine List.forall_mem_cons.mpr ⟨?_, ?_⟩)) <;> (first | (intro q hq; repeat (first | exact hq | apply List.mem_cons_of_mem)) | (repeat (first | exact List.mem_cons_self | apply List.mem_cons_of_mem))))
    case s1 => exact Int.fmod_nonneg_of_pos _ (by decide)
    case s2 => exact Int.fmod_lt_of_pos _ (by decide)
    case lz => exact hlt.2.2.2.2.2.2.2.1
    case ht => exact tail_app (n - 1) (by omega) _ _ (.inl ⟨rfl, .inl rfl⟩)
    case hq =>
      rw [Int.fmod_eq_emod_of_nonneg _ (by decide)] at hq ⊢
      simp only [Bool.false_eq_true, if_false, if_true]
      omega
  · (rename News _ _ _ _ => Nx)
    (rename Fr _ _ _ _ => Fx)
    (rename IntsAre _ _ => hIx)
    (rename And _ _ => hlt)
    (rename Obj.data _ = Data.cell (some (Value.int _ _)) => ho2)
    have hq : (c.fdiv 28).fmod 4 = 1 := by assumption
    unfold Halt
    refine' hc2 _ _ _ _ H L s _ _ _ _ _ _ n bs _ _ _ _ ta tb' tc _ a b c cc pl _ kc _ lc _ co1 _ co3 _ _ true ctx hbare hz hcc hcc' hpl hpl' ?s1 ?s2 hlc ?lz cd1 ho2 cd3 hIx ?ht ?hq Fx (sub_news Nx ?ks) ?ke _ _ _ _ _ _ _ _ _ [_, _, _, _, _, _, _, _, _] _ rfl ?kho
    case kho => exact rfl
    case ke => exact hret
    case ks => exact (by (repeat' (first | exact List.forall_mem_nil _ | refine List.forall_mem_cons.mpr ⟨?_, ?_⟩)) <;> (first | (intro q hq; repeat (first | exact hq | apply List.mem_cons_of_mem)) | (repeat (first | exact List.mem_cons_self | apply List.mem_cons_of_mem))))
    case s1 => exact Int.fmod_nonneg_of_pos _ (by decide)
    case s2 => exact Int.fmod_lt_of_pos _ (by decide)
    case lz => exact hlt.2.2.2.2.2.2.2.1
    case ht => exact tail_app (n - 1) (by omega) _ _ (.inr ⟨rfl, rfl⟩)
    case hq =>
      rw [Int.fmod_eq_emod_of_nonneg _ (by decide)] at hq ⊢
      simp only [Bool.false_eq_true, if_false, if_true]
      omega
  · (rename News _ _ _ _ => Nx)
    (rename Fr _ _ _ _ => Fx)
    (rename IntsAre _ _ => hIx)
    (rename And _ _ => hlt)
    (rename Obj.data _ = Data.cell (some (Value.int _ _)) => ho2)
    have hq : (c.fdiv 28).fmod 4 = 2 := by assumption
    unfold Halt
    refine' hc2 _ _ _ _ H L s _ _ _ _ _ _ n bs _ _ _ _ ta tb' tc _ a b c cc pl _ kc _ lc _ co1 _ co3 _ _ false ctx hbare hz hcc hcc' hpl hpl' ?s1 ?s2 hlc ?lz cd1 ho2 cd3 hIx ?ht ?hq Fx (sub_news Nx ?ks) ?ke _ _ _ _ _ _ _ _ _ [_, _, _, _, _, _, _, _, _] _ rfl ?kho
    case kho => exact rfl
    case ke => exact hret
    case ks => exact (by (repeat' (first | exact List.forall_mem_nil _ | refine List.forall_mem_cons.mpr ⟨?_, ?_⟩)) <;> (first | (intro q hq; repeat (first | exact hq | apply List.mem_cons_of_mem)) | (repeat (first | exact List.mem_cons_self | apply List.mem_cons_of_mem))))
    case s1 => exact Int.fmod_nonneg_of_pos _ (by decide)
    case s2 => exact Int.fmod_lt_of_pos _ (by decide)
    case lz => exact hlt.2.2.2.2.2.2.2.1
    case ht => exact tail_app (n - 1) (by omega) _ _ (.inl ⟨rfl, .inr rfl⟩)
    case hq =>
      rw [Int.fmod_eq_emod_of_nonneg _ (by decide)] at hq ⊢
      simp only [Bool.false_eq_true, if_false, if_true]
      omega
  · (rename News _ _ _ _ => Nx)
    (rename Fr _ _ _ _ => Fx)
    (rename IntsAre _ _ => hIx)
    (rename And _ _ => hlt)
    (rename Obj.data _ = Data.cell (some (Value.int _ _)) => ho2)
    have hq : (c.fdiv 28).fmod 4 = 3 := by assumption
    unfold Halt
    refine' hc2 _ _ _ _ H L s _ _ _ _ _ _ n bs _ _ _ _ ta tb' tc _ a b c cc pl _ kc _ lc _ co1 _ co3 _ _ true ctx hbare hz hcc hcc' hpl hpl' ?s1 ?s2 hlc ?lz cd1 ho2 cd3 hIx ?ht ?hq Fx (sub_news Nx ?ks) ?ke _ _ _ _ _ _ _ _ _ [_, _, _, _, _, _, _, _, _] _ rfl ?kho
    case kho => exact rfl
    case ke => exact hret
    case ks => exact (by (repeat' (first | exact List.forall_mem_nil _ | refine List.forall_mem_cons.mpr ⟨?_, ?_⟩)) <;> (first | (intro q hq; repeat (first | exact hq | apply List.mem_cons_of_mem)) | (repeat (first | exact List.mem_cons_self | apply List.mem_cons_of_mem))))
    case s1 => exact Int.fmod_nonneg_of_pos _ (by decide)
    case s2 => exact Int.fmod_lt_of_pos _ (by decide)
    case lz => exact hlt.2.2.2.2.2.2.2.1
    case ht => exact tail_app (n - 1) (by omega) _ _ (.inr ⟨rfl, rfl⟩)
    case hq =>
      rw [Int.fmod_eq_emod_of_nonneg _ (by decide)] at hq ⊢
      simp only [Bool.false_eq_true, if_false, if_true]
      omega
end Mine

-- LawC2
theorem Mine.gap_LawC2 : True ∧ True := by w_top off; walk1 <;> trivial
namespace Mine
open PySem PySem.W PySem.Calls PyProof.Rows
set_option maxRecDepth 100000

local macro_rules | `(tactic| walk_at "call ref") => `(tactic| ((with_reducible show wpAny _ _ (call (Value.ref _) _ _) _ _ _); refine Halt.of ?_))
local macro_rules | `(tactic| walk_at "execs cons") => `(tactic| ((with_reducible show wpAny _ _ (execs (Stmt.Assign [Expr.Name (Str.ofString "goal") _] _ _ :: _) _) _ _ _); refine Halt.of ?_))
theorem kf_start12 (w : World) : PySem.Challenge.rw_zd0009_01 = PySem.Challenge.rw_zd0009_01 → findIn (hd.heap_1 w.params) (.ref 107) "__getattr__" = some none := by k_fill; intro _; k_is
theorem inF_len (bs : List Bool) (c pl hi : Int) (los : List Int) : ∀ acc, (inF bs c pl hi acc los).length = acc.length + los.length := by
  induction los with
  | nil => intro acc; rfl
  | cons x r ih => intro acc; show (inF bs c pl hi _ r).length = _; rw [ih]; simp; omega
theorem turned_len {bs : List Bool} {n : Nat} (hz : Sz bs.length n) (c pl : Int) : (turned bs n c pl).length = bs.length := by
  unfold turned outF
  rcases hz with ⟨h, rfl⟩ | ⟨h, rfl⟩
  · rw [h]
    have e : downKs ((3 : Nat) - 1 : Int) (3 - 1) = [2, 1] := by decide +kernel
    rw [e]
    simp only [List.foldl_cons, List.foldl_nil, inF_len, rangeKs_length, List.length_nil]; decide
  · rw [h]
    have e : downKs ((5 : Nat) - 1 : Int) (5 - 1) = [4, 3, 2, 1] := by decide +kernel
    rw [e]
    simp only [List.foldl_cons, List.foldl_nil, inF_len, rangeKs_length, List.length_nil]; decide
set_option maxHeartbeats 4000000 in
theorem law_c2 (w : World) (hd' : PartD w) : PartC2 w := by
  intro loose mean mg mb H L s h tk g Q E m n bs tn tp tx t2 ta tb' tc tsh a b c cc pl sh kc kz lc lz co1 co2 co3 us xs more ctx hbare hz hcc hcc' hpl hpl' hsh hsh' hlc hlz cd1 cd2 cd3 hI hT hq F N hret
  intro oc pm cd doc od osl name params scope before rest hbl ho
  generalize hw : before ++ rest = whole at ho
  cases ho
  have hr := List.drop_left' (l₂ := rest) hbl
  rw [hw] at hr
  clear hw hbl
  simp only [List.drop_succ_cons, List.drop_zero] at hr
  subst hr
  have kMark : KstMark := kstMark
  have B' := below_caller H
  have X' := ctx.X
  have T' := ctx.T
  have hn5 : n = 3 ∨ n = 5 := by rcases hz with ⟨_, h⟩ | ⟨_, h⟩ <;> simp [h]
  have hn1 : 1 ≤ n ∧ n ≤ 5 := by omega
  k_steps
  refine comp_assign F (by rfl) (by with_unfolding_all rfl) (by with_unfolding_all rfl) (by decide) (by rfl) (by decide) (by rfl) (by rfl) (by rfl) ?_
  k_steps
  unfold Halt
  rename_i hR F2 N2 hk2
  refine ⟨_, _, _, _, fun i ys nw g' => g' = g ∧ nw = [(lz, listOf us.toArray kz), (lc, listOf #[.int a ta, .int b tb', .int c tc] kc), (L + 3, co1), (L + 2, co2), (L + 1, co3), (70, tabObj #[]), (77, tabObj #[])] ∧ StrsAre ys (fls sh i), F2, N2, ?_, src_range (n := n) rfl F2 N2 hR ?_ ?_, trivial, ⟨rfl, rfl, .nil⟩, CTurn.plain ?_, ?_⟩
  · rw [sizeLine_eq]; omega
  · exact small_one (by omega) (by omega) (by omega) (by omega)
  · rw [rangeSize_nat]; congr 1
  · rintro i ys nw v I oI C oC D m₂ h4 tk4 g4 E' hi hyl ⟨rfl, rfl, hys⟩ hS ⟨tv, rfl⟩ hoC hm2 F4 N4 off4 ne4 lt4
    simp only [Int.zero_add] at hm2
    have bi : (i : Int) < 5 := by omega
    k_steps
    unfold Halt
    refine flag_spec w noProg loose mean mg mb _ _ _ ?_ ?_ _ _ _ _ _ _ _ _ _ _ _ _ _ _ _ _ _ B' F4 X' N4 T' rfl (by decide) (by decide) ?_
    · omega
    · omega
    rintro r tl h6 tk6 F6 N6 ⟨rfl, t6, rfl⟩
    simp only [List.nil_append] at N6
    dsimp only
    k_steps
    unfold Halt
    refine CEnd.intro F6 N6 _ (fun _ h => h) off4 trivial ⟨rfl, rfl, ?_⟩
    have e1 : fls sh (i + 1) = fls sh i ++ [FN (sh + (i : Int))] := by unfold fls; rw [List.range_succ, List.map_append]; rfl
    rw [e1]
    exact strs_snoc hys _ _
  · rintro D h4 tk4 g4 ys nw F4 N4 off4 lt4 ⟨rfl, rfl, hys⟩ hS
    have htri : bs.length = tri (n - 1) := by rcases hz with ⟨h, rfl⟩ | ⟨h, rfl⟩ <;> rw [h] <;> rfl
    have htri2 : (turned bs n cc pl).length = tri (n - 1) := by rw [turned_len hz]; exact htri
    k_steps
    unfold Halt
    refine groups_spec w noProg loose mean mg mb bs _ lz us xs kz (n - 1) more _ hI hT (by omega) (by omega) htri (List.mem_cons_of_mem _ List.mem_cons_self) _ _ _ _ _ _ _ _ _ _ _ _ _ _ _ _ _ B' F4 X' N4 T' hbare rfl (by decide) (by decide) ?_
    rintro _ _ h5 tk5 g5 hb5 F5 N5 ⟨lg, gs, kg, rfl, rfl, llg, hgl, hgs, hgm⟩
    k_steps
    unfold Halt
    (rename News _ _ _ _ => N6)
    (rename Fr _ _ _ _ => F6)
    refine groups_spec w noProg loose mean mg mb _ _ lz us xs kz (n - 1) more _ hI hT (by omega) (by omega) htri2 (List.mem_cons_of_mem _ (List.mem_cons_of_mem _ List.mem_cons_self)) _ _ _ _ _ _ _ _ _ _ _ _ _ _ _ _ _ B' F6 X' N6 T' hb5 rfl (by decide) (by decide) ?_
    rintro _ _ h7 tk7 g7 hb7 F7 N7 ⟨lo, os, ko, rfl, rfl, llo, hol, hos, hom⟩
    k_steps
    have en : (n : Int) - 1 = ((n - 1 : Nat) : Int) := by omega
    rw [en]
    (rename News _ _ _ _ => N8)
    (rename Fr _ _ _ _ => F8)
    refine kmk_slice (lo := some (((n - 1 : Nat) : Int))) (hi := none) (s := ⟨_, _, _, _, _⟩) F8 N8 (News.isList N8 (List.mem_cons_of_mem _ List.mem_cons_self)) (IsPart.int _ _) IsPart.none ?_ (by with_unfolding_all rfl) (by intro _; with_unfolding_all rfl) (by rw [List.size_toArray, hgl, sizeLine_eq]; split <;> omega)
    intro ld h9 F9 N9 lld
    rw [slicePick_from'] at N9
    have eg : gs.toArray.toList = gs := rfl
    rw [eg] at N9
    cases more with
    | true =>
      have hg1 : ∃ t, gs.drop (n - 1) = [.int ((n - 1 : Nat) : Int) t] := by
        obtain ⟨t, ht⟩ := hgm rfl
        refine ⟨t, ?_⟩
        refine List.ext_getElem? fun j => ?_
        rw [List.getElem?_drop]
        rcases j with _ | j
        · exact ht
        · rw [List.getElem?_eq_none (by rw [hgl]; simp only [if_true]; omega)]; rfl
      obtain ⟨t1, hg1⟩ := hg1
      rw [hg1] at N9
      have hq1 : (c.fdiv 28).fmod 2 = 1 := hq
      clear hq
      k_steps
      all_goals try (exact absurd (hq1.symm.trans (by assumption)) (by decide))
      · (rename News _ _ _ _ => Nx)
        (rename Fr _ _ _ _ => Fx)
        unfold Halt
        refine' hd' _ _ _ _ H L s _ _ _ _ _ _ n bs _ _ _ _ tsh cc pl sh kg ko _ lg lo D (.ref lz) co1 co2 gs os ys ctx hb7 hz hcc hcc' hpl hpl' hsh hsh' ?lg ?lo ?lf cd1 cd2 hys hgs hos Fx (sub_news Nx ?ks) ?ke _ _ _ _ _ _ _ _ _ [_, _, _, _, _, _, _, _, _, _, _, _, _] _ rfl ?kho
        case kho => exact rfl
        case ke => exact hret
        case ks => exact (by (repeat' (first | exact List.forall_mem_nil _ | refine List.forall_mem_cons.mpr ⟨?_, ?_⟩)) <;> (first | (intro q hq; repeat (first | exact hq | apply List.mem_cons_of_mem)) | (repeat (first | exact List.mem_cons_self | apply List.mem_cons_of_mem))))
        case lf => exact lt4 (L + 3, co1) (List.mem_cons_of_mem _ (List.mem_cons_of_mem _ List.mem_cons_self))
        case lg => exact llg (L + 3, co1) (List.mem_cons_of_mem _ (List.mem_cons_of_mem _ (List.mem_cons_of_mem _ List.mem_cons_self)))
        case lo => exact llo (L + 3, co1) (List.mem_cons_of_mem _ (List.mem_cons_of_mem _ (List.mem_cons_of_mem _ (List.mem_cons_of_mem _ List.mem_cons_self))))
      · have hdf : ¬ ([((n - 1 : Nat) : Int)] = [(n : Int) - 1]) := by assumption
        exact absurd (by rw [en]) hdf
    | false =>
      have hg1 : gs.drop (n - 1) = [] := List.drop_eq_nil_of_le (by rw [hgl]; simp)
      rw [hg1] at N9
      have hq1 : (c.fdiv 28).fmod 2 = 0 := hq
      clear hq
      k_steps
      all_goals try (exact absurd (hq1.symm.trans (by assumption)) (by decide))
      · (rename News _ _ _ _ => Nx)
        (rename Fr _ _ _ _ => Fx)
        unfold Halt
        refine' hd' _ _ _ _ H L s _ _ _ _ _ _ n bs _ _ _ _ tsh cc pl sh kg ko _ lg lo D (.ref lz) co1 co2 gs os ys ctx hb7 hz hcc hcc' hpl hpl' hsh hsh' ?lg ?lo ?lf cd1 cd2 hys hgs hos Fx (sub_news Nx ?ks) ?ke _ _ _ _ _ _ _ _ _ [_, _, _, _, _, _, _, _, _, _, _, _, _] _ rfl ?kho
        case kho => exact rfl
        case ke => exact hret
        case ks => exact (by (repeat' (first | exact List.forall_mem_nil _ | refine List.forall_mem_cons.mpr ⟨?_, ?_⟩)) <;> (first | (intro q hq; repeat (first | exact hq | apply List.mem_cons_of_mem)) | (repeat (first | exact List.mem_cons_self | apply List.mem_cons_of_mem))))
        case lf => exact lt4 (L + 3, co1) (List.mem_cons_of_mem _ (List.mem_cons_of_mem _ List.mem_cons_self))
        case lg => exact llg (L + 3, co1) (List.mem_cons_of_mem _ (List.mem_cons_of_mem _ (List.mem_cons_of_mem _ List.mem_cons_self)))
        case lo => exact llo (L + 3, co1) (List.mem_cons_of_mem _ (List.mem_cons_of_mem _ (List.mem_cons_of_mem _ (List.mem_cons_of_mem _ List.mem_cons_self))))
end Mine

-- Sem
theorem Mine.gap_Sem : True ∧ True := by w_top off; walk1 <;> trivial
namespace Mine
open PySem PySem.W PySem.Calls PyProof.Rows
/-- a table whose people c are turned -/
def sw (bs : List Bool) (c : Nat) (i j : Nat) : Bool := tb bs i j != (c.testBit i != c.testBit j)
def tabC (bs : List Bool) (n c : Nat) : List (List (Str × Str)) := tout (sw bs c) n (n - 1)
def oddN (bs : List Bool) (n c : Nat) : Nat := (((List.range n).filter (fun i => decide (lenC ((tabC bs n c).getD i []) % 2 = 1))).map (fun i => 2 ^ i)).sum
/-- what pretty_flags tells of a set -/
def told (sh c : Nat) : Str := PF (c * 2 ^ sh)
def joinC (c : List (Str × Str)) : Str := Txt.join Str.empty (c.map (fun p => p.1 ++ p.2))
def rowsS (bs : List Bool) (n : Nat) : List Str := (List.range n).map (rowT bs n)
def rowC (bs : List Bool) (n c i : Nat) : Str := ⟨(((List.range n).filter (fun j => j != i && sw bs c i j)).map (97 + ·)).toArray⟩
def rowsC (bs : List Bool) (n c : Nat) : List Str := (List.range n).map (rowC bs n c)
def evenC (n c : Nat) : Bool := decide (((List.range n).map (fun i => (c / 2 ^ i) % 2)).sum % 2 = 0)
def metL (bs ds : List Bool) (n k : Nat) : List Nat := (List.range k).filter (fun c => evenC n c && (oddN bs n c == oddN ds n 0 && rowsC bs n c == rowsS ds n))
def evenL (bs : List Bool) (n k : Nat) : List (List Str) := ((List.range k).filter (fun c => evenC n c && oddN bs n c == 0)).map (rowsC bs n)
theorem odd_cast (cs : List (List (Str × Str))) (k : Nat) : (oddL cs k).sum = (((((List.range k).filter (fun i => decide (lenC (cs.getD i []) % 2 = 1))).map (fun i => 2 ^ i)).sum : Nat) : Int) := by
  unfold oddL
  generalize (List.range k).filter _ = l
  induction l with
  | nil => rfl
  | cons x r ih => rw [List.map_cons, List.sum_cons, List.map_cons, List.sum_cons, ih]; simp
theorem pow_sum_lt (p : Nat → Bool) (k : Nat) : (((List.range k).filter p).map (fun i => 2 ^ i)).sum < 2 ^ k := by
  induction k with
  | zero => simp
  | succ k ih =>
    rw [List.range_succ, List.filter_append, List.map_append, List.sum_append, Nat.pow_succ]
    by_cases h : p k = true
    · simp [h]; omega
    · simp [h]; omega
theorem oddN_lt (bs : List Bool) (n c : Nat) : oddN bs n c < 2 ^ n := pow_sum_lt _ n
end Mine

-- SemS
theorem Mine.gap_SemS : True ∧ True := by w_top off; walk1 <;> trivial
namespace Mine
open PySem PySem.W PySem.Calls PyProof.Rows
theorem bit_cast (i j : Nat) : ((i : Int).fdiv (2 ^ ((j : Int)).toNat)).fmod 2 = (((i / 2 ^ j) % 2 : Nat) : Int) := by
  rw [Int.toNat_natCast, Int.fmod_eq_emod_of_nonneg _ (by decide), Int.fdiv_eq_ediv_of_nonneg _ (by exact_mod_cast Nat.zero_le _)]
  simp
theorem turned3 (ds : List Bool) (c pl : Int) : turned ds 3 c pl = [tBit ds c pl 2 0 0, tBit ds c pl 2 1 1, tBit ds c pl 1 0 2] := by rfl
theorem turned5 (ds : List Bool) (c pl : Int) : turned ds 5 c pl = [tBit ds c pl 4 0 0, tBit ds c pl 4 1 1, tBit ds c pl 4 2 2, tBit ds c pl 4 3 3, tBit ds c pl 3 0 4, tBit ds c pl 3 1 5, tBit ds c pl 3 2 6, tBit ds c pl 2 0 7, tBit ds c pl 2 1 8, tBit ds c pl 1 0 9] := by rfl
theorem cb_bit (c k : Nat) : cb (c : Int) (k : Int) = (if c.testBit k then 1 else 0) := by
  unfold cb
  rw [bit_cast, Nat.testBit_eq_decide_div_mod_eq]
  have := Nat.mod_two_eq_zero_or_one (c / 2 ^ k)
  rcases this with h | h <;> rw [h] <;> simp
theorem tbit_sw (ds : List Bool) (c : Nat) (pl : Int) (hi lo idx : Nat) : tBit ds c pl hi lo idx = (sw ds c lo hi != decide ((idx : Int) = pl)) := by
  unfold tBit sw
  rw [cb_bit, cb_bit, Int.toNat_natCast, Int.toNat_natCast]
  congr 1
  congr 1
  cases c.testBit lo <;> cases c.testBit hi <;> rfl
theorem tb_sym (bs : List Bool) (i j : Nat) : tb bs i j = tb bs j i := by unfold tb tieIdx; rw [Nat.max_comm, Nat.min_comm]
theorem sw_sym (bs : List Bool) (c i j : Nat) : sw bs c i j = sw bs c j i := by unfold sw; rw [tb_sym]; cases tb bs j i <;> cases c.testBit i <;> cases c.testBit j <;> rfl
theorem fls_len (sh : Int) (n : Nat) : (fls sh n).length = n := by unfold fls; rw [List.length_map, List.length_range]
theorem pn_ok : ∀ i : Fin 33, (pname i.val).length ≤ 20 ∧ PyData.strOk (pname i.val) = true := by decide +kernel
theorem fls_pn (sh n : Nat) : fls sh n = (List.range n).map (fun i => pname (sh + i)) := by
  unfold fls pname
  refine List.map_congr_left fun i _ => ?_
  congr 1
theorem fls_ok {sh n : Nat} (h : sh < 28) (hn : n ≤ 5) : okS (fls sh n) ∧ ∀ x ∈ fls sh n, x.length ≤ 100 ∧ PyData.strOk x = true := by
  have key : ∀ x ∈ fls sh n, x.length ≤ 100 ∧ PyData.strOk x = true := by
    intro x hx
    rw [fls_pn] at hx
    obtain ⟨i, hi, rfl⟩ := List.mem_map.mp hx
    have hi := List.mem_range.mp hi
    have := pn_ok ⟨sh + i, by omega⟩
    exact ⟨Nat.le_trans this.1 (by decide), this.2⟩
  exact ⟨fun x hx => (key x hx).2, key⟩
theorem rowsC0 (bs : List Bool) (n : Nat) : rowsC bs n 0 = rowsS bs n := by
  unfold rowsC rowsS
  refine List.map_congr_left fun i _ => ?_
  unfold rowC rowT sw
  simp
theorem small_ok {n : Nat} (hn : n ≤ 5) (p : Nat → Bool) : PyData.strOk ⟨(((List.range n).filter p).map (97 + ·)).toArray⟩ = true := by
  unfold PyData.strOk
  simp only [List.all_toArray, List.all_eq_true, List.mem_map, decide_eq_true_eq]
  rintro x ⟨y, hy, rfl⟩
  have := List.mem_range.mp (List.mem_filter.mp hy).1
  omega
theorem rowsS_ok {bs : List Bool} {n : Nat} (hn : n ≤ 5) : okS (rowsS bs n) := by
  intro x hx
  obtain ⟨i, _, rfl⟩ := List.mem_map.mp hx
  exact small_ok hn _
theorem rowsC_ok {bs : List Bool} {n c : Nat} (hn : n ≤ 5) : okS (rowsC bs n c) := by
  intro x hx
  obtain ⟨i, _, rfl⟩ := List.mem_map.mp hx
  exact small_ok hn _
theorem or_sum : ∀ a : Fin 32, ∀ b : Fin 32, a.val ||| b.val = (a.val ^^^ b.val) + (a.val &&& b.val) := by decide +kernel
theorem xor_cast {a b : Nat} (ha : a < 32) (hb : b < 32) : Builtin.bitXor (a : Int) (b : Int) = ((a ^^^ b : Nat) : Int) := by
  unfold Builtin.bitXor Builtin.bitAnd
  have h1 : decide ((0 : Int) ≤ ((a : Nat) : Int)) = true := by simp
  have h2 : decide ((0 : Int) ≤ ((b : Nat) : Int)) = true := by simp
  rw [or_form, h1, h2]
  show ((a ||| b : Nat) : Int) - (((a : Int).toNat &&& (b : Int).toNat : Nat) : Int) = _
  rw [Int.toNat_natCast, Int.toNat_natCast, or_sum ⟨a, ha⟩ ⟨b, hb⟩, Int.natCast_add, Int.add_sub_cancel]
theorem enum3 : ∀ j, j < 3 → ∀ i, i < j → (i = 0 ∧ j = 1) ∨ (i = 0 ∧ j = 2) ∨ (i = 1 ∧ j = 2) := by decide +kernel
set_option synthInstance.maxSize 4000 in
set_option synthInstance.maxHeartbeats 400000 in
theorem enum5 : ∀ j, j < 5 → ∀ i, i < j → (i = 0 ∧ j = 1) ∨ (i = 0 ∧ j = 2) ∨ (i = 1 ∧ j = 2) ∨ (i = 0 ∧ j = 3) ∨ (i = 1 ∧ j = 3) ∨ (i = 2 ∧ j = 3) ∨ (i = 0 ∧ j = 4) ∨ (i = 1 ∧ j = 4) ∨ (i = 2 ∧ j = 4) ∨ (i = 3 ∧ j = 4) := by decide +kernel
theorem tie_lt3 : ∀ b, b < 3 → ∀ a, a < b → tieIdx 3 a b < 3 := by decide +kernel
theorem tie_lt5 : ∀ b, b < 5 → ∀ a, a < b → tieIdx 10 a b < 10 := by decide +kernel
theorem tb_turned {ds : List Bool} {n : Nat} (hz : Sz ds.length n) (c : Nat) (pl : Int) {i j : Nat} (hij : i < j) (hj : j < n) : tb (turned ds n (c : Int) pl) i j = (sw ds c i j != decide (((tieIdx ds.length i j : Nat) : Int) = pl)) := by
  rcases hz with ⟨h, rfl⟩ | ⟨h, rfl⟩
  · rw [h, turned3]
    rcases enum3 j hj i hij with ⟨rfl, rfl⟩ | ⟨rfl, rfl⟩ | ⟨rfl, rfl⟩
    · exact tbit_sw ds c pl 1 0 2
    · exact tbit_sw ds c pl 2 0 0
    · exact tbit_sw ds c pl 2 1 1
  · rw [h, turned5]
    rcases enum5 j hj i hij with ⟨rfl, rfl⟩ | ⟨rfl, rfl⟩ | ⟨rfl, rfl⟩ | ⟨rfl, rfl⟩ | ⟨rfl, rfl⟩ | ⟨rfl, rfl⟩ | ⟨rfl, rfl⟩ | ⟨rfl, rfl⟩ | ⟨rfl, rfl⟩ | ⟨rfl, rfl⟩
    · exact tbit_sw ds c pl 1 0 9
    · exact tbit_sw ds c pl 2 0 7
    · exact tbit_sw ds c pl 2 1 8
    · exact tbit_sw ds c pl 3 0 4
    · exact tbit_sw ds c pl 3 1 5
    · exact tbit_sw ds c pl 3 2 6
    · exact tbit_sw ds c pl 4 0 0
    · exact tbit_sw ds c pl 4 1 1
    · exact tbit_sw ds c pl 4 2 2
    · exact tbit_sw ds c pl 4 3 3
theorem rows_turned {ds : List Bool} {n c : Nat} (hz : Sz ds.length n) : rowsC ds n c = rowsS (turned ds n (c : Int) (ds.length : Int)) n := by
  unfold rowsC rowsS
  refine List.map_congr_left fun i hi => ?_
  have hi := List.mem_range.mp hi
  have lt : ∀ a b, a < b → b < n → tieIdx ds.length a b < ds.length := by
    intro a b h1 h2
    rcases hz with ⟨h, rfl⟩ | ⟨h, rfl⟩ <;> rw [h]
    · exact tie_lt3 b h2 a h1
    · exact tie_lt5 b h2 a h1
  have key : ∀ a b, a < b → b < n → tb (turned ds n (c : Int) (ds.length : Int)) a b = sw ds c a b := by
    intro a b h1 h2
    rw [tb_turned hz c _ h1 h2]
    have := lt a b h1 h2
    rw [decide_eq_false (by omega)]
    simp
  unfold rowC rowT
  congr 3
  refine List.filter_congr fun j hj => ?_
  have hj := List.mem_range.mp hj
  by_cases e : j = i
  · subst e; simp
  · congr 1
    rcases Nat.lt_or_gt_of_ne e with h | h
    · rw [sw_sym, tb_sym, key j i h hi]
    · rw [key i j h hj]
end Mine

-- Spl
theorem Mine.gap_Spl : True ∧ True := by w_top off; walk1 <;> trivial
namespace Mine
open PySem PySem.Builtin PySem.Builtin.Str PySem.StrLaws
theorem at_two {x : Str} {c d i : Nat} : At x ⟨#[c, d]⟩ x.length i ↔ (x.cps.toList[i]? = some c ∧ x.cps.toList[i + 1]? = some d) := by
  unfold At
  rw [subAt_eq]
  have hl : x.length = x.cps.toList.length := by simp [Str.length]
  rw [hl]
  show (i + 2 ≤ _ ∧ (List.take 2 _ == [c, d]) = true) ↔ _
  rw [beq_iff_eq]
  generalize x.cps.toList = L
  have e0 : L[i]? = (L.drop i)[0]? := by rw [List.getElem?_drop]; rfl
  have e1 : L[i + 1]? = (L.drop i)[1]? := by rw [List.getElem?_drop]
  have e2 : i + 2 ≤ L.length ↔ 2 ≤ (L.drop i).length ∨ (i + 2 ≤ L.length) := by rw [List.length_drop]; omega
  have e3 : 2 ≤ (L.drop i).length → i + 2 ≤ L.length := by rw [List.length_drop]; omega
  rw [e0, e1]
  generalize L.drop i = M at e3
  constructor
  · rintro ⟨_, h⟩
    match M, h with
    | [], h => simp at h
    | [y], h => simp at h
    | y :: z :: r, h => simp at h; simp [h.1, h.2]
  · rintro ⟨h1, h2⟩
    match M, h1, h2 with
    | y :: z :: r, h1, h2 =>
      simp at h1 h2
      subst h1 h2
      exact ⟨e3 (by simp), by simp⟩
theorem str_len (x : Str) : x.length = x.cps.toList.length := by simp [Str.length]
theorem join_two (y p q : Str) (r : List Str) : (Str.join y (p :: q :: r)).cps.toList = p.cps.toList ++ (y.cps.toList ++ (Str.join y (q :: r)).cps.toList) := by
  show (p ++ y ++ Str.join y (q :: r)).cps.toList = _
  simp only [Str.cps_append, Array.toList_append, List.append_assoc]
theorem parts_of (x : Str) (c d : Nat) : ∀ (ps : List Str) (a f : Nat) (cuts : List Nat), ps ≠ [] → (∀ p ∈ ps, c ∉ p.cps.toList) → x.cps.toList.drop a = (Str.join ⟨#[c, d]⟩ ps).cps.toList → ChainG x ⟨#[c, d]⟩ x.length a cuts f → (∀ k, f ≤ k → ¬ At x ⟨#[c, d]⟩ x.length k) → partsFrom x 2 a cuts = ps
  | [], _, _, _, h, _, _, _, _ => absurd rfl h
  | [p], a, f, [], _, _, hd, _, _ => by
    show [strSub x a x.length] = [p]
    congr 1
    apply Str.ext'
    apply Array.toList_inj.mp
    rw [strSub_toList, hd, List.take_of_length_le]
    · rfl
    · rw [str_len x, ← hd, List.length_drop]; exact Nat.le_refl _
  | [p], a, f, k :: r, _, hc, hd, hG, _ => by
    exfalso
    have h1 := (at_two.mp hG.2.1).1
    have h2 : (x.cps.toList.drop a)[k - a]? = some c := by
      rw [List.getElem?_drop]
      have := hG.1
      rw [show a + (k - a) = k by omega]; exact h1
    rw [hd] at h2
    exact hc p List.mem_cons_self (List.mem_of_getElem? h2)
  | p :: q :: r, a, f, cuts, _, hc, hd, hG, hn => by
    rw [join_two] at hd
    have hcp := hc p List.mem_cons_self
    have hl : p.length = p.cps.toList.length := str_len p
    have g1 : x.cps.toList[a + p.length]? = some c := by
      rw [← List.getElem?_drop, hd, List.getElem?_append_right (by omega), hl, Nat.sub_self]
      rfl
    have g2 : x.cps.toList[a + p.length + 1]? = some d := by
      rw [Nat.add_assoc, ← List.getElem?_drop, hd, List.getElem?_append_right (by omega), hl, Nat.add_sub_cancel_left]
      rfl
    have hA : At x ⟨#[c, d]⟩ x.length (a + p.length) := at_two.mpr ⟨g1, g2⟩
    match cuts, hG with
    | [], hG =>
      exfalso
      have e : f = a := hG
      exact hn _ (by omega) hA
    | k :: cs, hG =>
      have hk : k = a + p.length := by
        have h1 := (at_two.mp hG.2.1).1
        have h0 := hG.1
        have h3 : ¬ a + p.length < k := fun h => hG.2.2.1 _ (by omega) h hA
        by_cases h4 : k < a + p.length
        · exfalso
          have h2 : (x.cps.toList.drop a)[k - a]? = some c := by
            rw [List.getElem?_drop, show a + (k - a) = k by omega]; exact h1
          rw [hd, List.getElem?_append_left (by omega)] at h2
          exact hcp (List.mem_of_getElem? h2)
        · omega
      subst hk
      show strSub x a (a + p.length) :: partsFrom x 2 (a + p.length + 2) cs = p :: q :: r
      have hd2 : x.cps.toList.drop (a + p.length + 2) = (Str.join ⟨#[c, d]⟩ (q :: r)).cps.toList := by
        rw [Nat.add_assoc, ← List.drop_drop, hd, ← List.drop_drop, hl, List.drop_left]
        rfl
      rw [parts_of x c d (q :: r) (a + p.length + 2) f cs (by simp) (fun z hz => hc z (List.mem_cons_of_mem _ hz)) hd2 hG.2.2.2 hn]
      congr 1
      apply Str.ext'
      apply Array.toList_inj.mp
      rw [strSub_toList, hd, Nat.add_sub_cancel_left, hl, List.take_left]
theorem kind_pos (x : Str) : 1 ≤ PySem.Builtin.Str.strKind x := by unfold PySem.Builtin.Str.strKind; split; exact Nat.le_refl _; split <;> decide
theorem split_join {c d : Nat} (hc : c < 256) (hd : d < 256) (ps : List Str) (hne : ps ≠ []) (hf : ∀ p ∈ ps, c ∉ p.cps.toList) : Txt.split (Txt.join ⟨#[c, d]⟩ ps) ⟨#[c, d]⟩ = ps := by
  have ej : Txt.join ⟨#[c, d]⟩ ps = Str.join ⟨#[c, d]⟩ ps := glued_eq_join _ _
  rw [ej]
  have key : ∀ cuts f, ChainG (Str.join ⟨#[c, d]⟩ ps) ⟨#[c, d]⟩ (Str.join ⟨#[c, d]⟩ ps).length 0 cuts f → (∀ k, f ≤ k → ¬ At (Str.join ⟨#[c, d]⟩ ps) ⟨#[c, d]⟩ (Str.join ⟨#[c, d]⟩ ps).length k) → partsFrom (Str.join ⟨#[c, d]⟩ ps) 2 0 cuts = ps := fun cuts f => parts_of _ c d ps 0 f cuts hne hf (by rw [List.drop_zero])
  obtain ⟨f, hG, hn⟩ := occ_tight (Str.join ⟨#[c, d]⟩ ps) ⟨#[c, d]⟩ (by show 1 ≤ 2; decide)
  have hk : PySem.Builtin.Str.strKind ⟨#[c, d]⟩ = 1 := by unfold PySem.Builtin.Str.strKind; simp [hc, hd]
  unfold Txt.split
  split
  · rename_i h
    rw [Bool.or_eq_true, decide_eq_true_eq, decide_eq_true_eq, hk] at h
    have := kind_pos (Str.join ⟨#[c, d]⟩ ps)
    have h : (Str.join ⟨#[c, d]⟩ ps).length < 2 := by
      rcases h with h | h
      · exact h
      · omega
    match ps, hne, h with
    | [p], _, _ => rfl
    | p :: q :: r, _, h =>
      exfalso
      rw [str_len, join_two] at h
      simp at h
      omega
  · split
    · rename_i he
      have e0 := List.isEmpty_iff.mp he
      rw [e0] at hG
      have := key [] f hG hn
      rw [← this]
      show [_] = [strSub _ 0 _]
      rw [sub_whole]
      congr 1
      rw [this]
    · rw [partsBetween_eq]
      exact key _ f hG hn
end Mine

-- Pure2
theorem Mine.gap_Pure2 : True ∧ True := by w_top off; walk1 <;> trivial
namespace Mine
open PySem PySem.W PySem.Calls PyProof.Rows
theorem addTo_len' (c : List (List (Str × Str))) (k : Nat) (p : Str × Str) : (addTo c k p).length = c.length := by unfold addTo; rw [List.length_modify]
theorem tin_len' (tie : Nat → Nat → Bool) (one : Nat) (c : List (List (Str × Str))) : ∀ k, (tin tie one c k).length = c.length
  | 0 => rfl
  | k + 1 => by rw [tin_s]; unfold tstep; split <;> simp only [addTo_len', tin_len' tie one c k]
/-- a row after the ties of 1..i have been laid -/
def rowI (tie : Nat → Nat → Bool) (i r : Nat) : List (Str × Str) :=
  (if r ≤ i then ((List.range r).filter (tie r)).map (fun j => (Str.empty, ltr j)) else []) ++ (((List.range (i + 1)).filter (fun j => decide (r < j) && tie j r)).map (fun j => (ltr j, Str.empty)))
theorem addTo_get (c : List (List (Str × Str))) (k : Nat) (p : Str × Str) (r : Nat) (hr : r < c.length) : (addTo c k p).getD r [] = c.getD r [] ++ (if k = r then [p] else []) := by
  unfold addTo
  rw [List.getD_eq_getElem?_getD, List.getElem?_modify, List.getElem?_eq_getElem hr, List.getD_eq_getElem?_getD, List.getElem?_eq_getElem hr]
  by_cases h : k = r
  · simp [h]
  · simp [h]
theorem tin_get (tie : Nat → Nat → Bool) (one : Nat) (c : List (List (Str × Str))) (h1 : one < c.length) : ∀ k, k ≤ one → ∀ r, r < c.length →
    (tin tie one c k).getD r [] = c.getD r [] ++ (if r = one then ((List.range k).filter (tie one)).map (fun j => (Str.empty, ltr j)) else if r < k && tie one r then [(ltr one, Str.empty)] else [])
  | 0, _, r, hr => by
    show c.getD r [] = _
    by_cases h : r = one <;> simp [h]
  | k + 1, hk, r, hr => by
    have ih := tin_get tie one c h1 k (by omega) r hr
    have hl := tin_len' tie one c k
    rw [tin_s]
    unfold tstep
    by_cases ht : tie one k = true
    · rw [if_pos ht, addTo_get _ _ _ _ (by rw [addTo_len', hl]; exact hr), addTo_get _ _ _ _ (by rw [hl]; exact hr), ih, List.append_assoc, List.append_assoc]
      congr 1
      by_cases h : r = one
      · subst h
        rw [if_pos rfl, if_pos rfl, if_pos rfl, if_neg (by omega), List.range_succ, List.filter_append, List.map_append]
        simp [ht]
      · rw [if_neg h, if_neg h, if_neg (Ne.symm h)]
        by_cases hk2 : k = r
        · subst hk2; simp [ht]
        · by_cases h3 : r < k
          · have : r < k + 1 := by omega
            simp [h3, this, hk2]
          · have : ¬ r < k + 1 := by omega
            simp [h3, this, hk2]
    · rw [if_neg ht, ih]
      congr 1
      by_cases h : r = one
      · rw [if_pos h, if_pos h, List.range_succ, List.filter_append, List.map_append]
        simp [ht]
      · rw [if_neg h, if_neg h]
        by_cases hk2 : r = k
        · subst hk2; simp [ht]
        · have : (decide (r < k + 1)) = decide (r < k) := by congr 1; exact propext (by omega)
          rw [this]
end Mine

-- Pure3
theorem Mine.gap_Pure3 : True ∧ True := by w_top off; walk1 <;> trivial
namespace Mine
open PySem PySem.W PySem.Calls PyProof.Rows
theorem tout_len' (tie : Nat → Nat → Bool) (n : Nat) : ∀ i, (tout tie n i).length = n
  | 0 => List.length_replicate
  | i + 1 => by rw [tout_s, tin_len', tout_len' tie n i]
theorem filter_none (i r : Nat) (p : Nat → Bool) (h : i ≤ r + 1) : (List.range i).filter (fun j => decide (r < j) && p j) = [] := by
  refine List.filter_eq_nil_iff.mpr fun j hj => ?_
  have := List.mem_range.mp hj
  have : ¬ r < j := by omega
  simp [this]
theorem tout_get (tie : Nat → Nat → Bool) (n : Nat) : ∀ i, i < n → ∀ r, r < n → (tout tie n i).getD r [] = rowI tie i r
  | 0, _, r, hr => by
    show (List.replicate n []).getD r [] = _
    unfold rowI
    rw [filter_none _ _ _ (by omega)]
    have : (if r ≤ 0 then ((List.range r).filter (tie r)).map (fun j => (Str.empty, ltr j)) else []) = [] := by
      split
      · have : r = 0 := by omega
        subst this; rfl
      · rfl
    rw [this]
    simp [List.getD_eq_getElem?_getD, hr]
  | i + 1, hi, r, hr => by
    rw [tout_s, tin_get tie (1 + i) _ (by rw [tout_len']; omega) (1 + i) (Nat.le_refl _) r (by rw [tout_len']; exact hr), tout_get tie n i (by omega) r hr]
    have e : 1 + i = i + 1 := by omega
    rw [e]
    unfold rowI
    by_cases h : r = i + 1
    · subst h
      rw [if_neg (by omega), filter_none _ _ _ (by omega), if_pos rfl, if_pos (by omega), filter_none _ _ _ (by omega)]
      simp
    · rw [if_neg h]
      by_cases h2 : r ≤ i
      · rw [if_pos h2, if_pos (show r ≤ i + 1 by omega), List.append_assoc]
        congr 1
        rw [List.range_succ (n := i + 1), List.filter_append, List.map_append]
        congr 1
        have : r < i + 1 := by omega
        by_cases ht : tie (i + 1) r = true <;> simp [this, ht]
      · rw [if_neg h2, if_neg (show ¬ r ≤ i + 1 by omega), filter_none _ _ _ (by omega), filter_none _ _ _ (by omega)]
        have : ¬ r < i + 1 := by omega
        simp [this]
end Mine

-- Pure4
theorem Mine.gap_Pure4 : True ∧ True := by w_top off; walk1 <;> trivial
namespace Mine
open PySem PySem.W PySem.Calls PyProof.Rows
theorem join_ltr (l : List Nat) : Txt.join Str.empty (l.map ltr) = ⟨(l.map (97 + ·)).toArray⟩ := by
  have e : l.map ltr = signs ⟨(l.map (97 + ·)).toArray⟩ := by
    unfold signs
    simp [ltr]
  rw [Txt.join, StrLaws.glued_eq_join, e]
  exact join_nil_signs _
theorem cat_l (j : Nat) : Str.empty ++ ltr j = ltr j := by rfl
theorem cat_r (j : Nat) : ltr j ++ Str.empty = ltr j := by rfl
theorem rowI_join (tie : Nat → Nat → Bool) (n r : Nat) (hr : r < n) : joinC (rowI tie (n - 1) r) = ⟨((((List.range r).filter (tie r)) ++ ((List.range n).filter (fun j => decide (r < j) && tie j r))).map (97 + ·)).toArray⟩ := by
  unfold joinC rowI
  rw [if_pos (by omega), List.map_append, List.map_map, List.map_map]
  have e : n - 1 + 1 = n := by omega
  rw [e]
  have e1 : ((fun p : Str × Str => p.1 ++ p.2) ∘ fun j => (Str.empty, ltr j)) = ltr := funext cat_l
  have e2 : ((fun p : Str × Str => p.1 ++ p.2) ∘ fun j => (ltr j, Str.empty)) = ltr := funext cat_r
  rw [e1, e2, ← List.map_append, join_ltr]
theorem rows_list (tie : Nat → Nat → Bool) (n r : Nat) (hr : r < n) (hs : ∀ i j, tie i j = tie j i) : ((List.range r).filter (tie r)) ++ ((List.range n).filter (fun j => decide (r < j) && tie j r)) = (List.range n).filter (fun j => j != r && tie r j) := by
  obtain ⟨k, rfl⟩ : ∃ k, n = r + (k + 1) := ⟨n - r - 1, by omega⟩
  rw [List.range_add (n := r), List.filter_append, List.filter_append]
  have e0 : (List.range r).filter (fun j => decide (r < j) && tie j r) = [] := filter_none _ _ _ (by omega)
  rw [e0, List.nil_append]
  congr 1
  · refine List.filter_congr fun j hj => ?_
    have := List.mem_range.mp hj
    have : j ≠ r := by omega
    simp [this]
  · refine List.filter_congr fun j hj => ?_
    obtain ⟨x, _, rfl⟩ := List.mem_map.mp hj
    rw [hs]
    by_cases hx : x = 0
    · subst hx; simp
    · have h1 : r < r + x := by omega
      have h2 : r + x ≠ r := by omega
      simp [h1, hx]
theorem rows_join' {bs : List Bool} {n c : Nat} (hn : 1 ≤ n) : (tabC bs n c).map joinC = rowsC bs n c := by
  unfold rowsC
  refine List.ext_getElem? fun r => ?_
  by_cases hr : r < n
  · have h1 := tout_get (sw bs c) n (n - 1) (by omega) r hr
    have hl := tout_len' (sw bs c) n (n - 1)
    rw [List.getElem?_map, List.getElem?_map, List.getElem?_range hr]
    unfold tabC
    rw [List.getElem?_eq_getElem (by rw [hl]; exact hr)]
    rw [List.getD_eq_getElem?_getD, List.getElem?_eq_getElem (by rw [hl]; exact hr)] at h1
    simp only [Option.getD_some] at h1
    rw [h1]
    simp only [Option.map_some]
    rw [rowI_join _ _ _ hr, rows_list _ _ _ hr (fun i j => sw_sym bs c i j)]
    rfl
  · have hl := tout_len' (sw bs c) n (n - 1)
    rw [List.getElem?_eq_none (by rw [List.length_map]; unfold tabC; omega), List.getElem?_eq_none (by simpa using hr)]
end Mine

-- Pure5
theorem Mine.gap_Pure5 : True ∧ True := by w_top off; walk1 <;> trivial
namespace Mine
open PySem PySem.W PySem.Calls PyProof.Rows
theorem ltr_len (j : Nat) : (ltr j).length = 1 := by rfl
theorem lenC_l (l : List Nat) : lenC (l.map (fun j => (Str.empty, ltr j))) = l.length := by
  unfold lenC
  induction l with
  | nil => rfl
  | cons x r ih =>
    rw [List.map_cons, List.map_cons, List.sum_cons, ih, List.length_cons, ltr_len]
    show 0 + 1 + _ = _
    omega
theorem lenC_r (l : List Nat) : lenC (l.map (fun j => (ltr j, Str.empty))) = l.length := by
  unfold lenC
  induction l with
  | nil => rfl
  | cons x r ih =>
    rw [List.map_cons, List.map_cons, List.sum_cons, ih, List.length_cons, ltr_len]
    show 1 + 0 + _ = _
    omega
theorem lenC_app (a b : List (Str × Str)) : lenC (a ++ b) = lenC a + lenC b := by unfold lenC; rw [List.map_append, List.sum_append]
theorem lenC_rowI (tie : Nat → Nat → Bool) (n r : Nat) (hr : r < n) (hs : ∀ i j, tie i j = tie j i) : lenC (rowI tie (n - 1) r) = ((List.range n).filter (fun j => j != r && tie r j)).length := by
  unfold rowI
  have e : n - 1 + 1 = n := by omega
  rw [if_pos (by omega), lenC_app, lenC_l, lenC_r, e, ← List.length_append, rows_list _ _ _ hr hs]
theorem oddN_eq {bs : List Bool} {n c : Nat} (hn : 1 ≤ n) : oddN bs n c = (((List.range n).filter (fun r => decide (((List.range n).filter (fun j => j != r && sw bs c r j)).length % 2 = 1))).map (fun i => 2 ^ i)).sum := by
  unfold oddN
  congr 2
  refine List.filter_congr fun r hr => ?_
  have hr := List.mem_range.mp hr
  unfold tabC
  rw [tout_get _ _ _ (by omega) r hr, lenC_rowI _ _ _ hr (fun i j => sw_sym bs c i j)]
end Mine

-- Pure6
theorem Mine.gap_Pure6 : True ∧ True := by w_top off; walk1 <;> trivial
namespace Mine
open PySem PySem.W PySem.Calls PyProof.Rows
theorem mask_bit (p : Nat → Bool) : ∀ k j, (((List.range k).filter p).map (fun i => 2 ^ i)).sum.testBit j = (decide (j < k) && p j)
  | 0, j => by simp
  | k + 1, j => by
    have ih := mask_bit p k j
    have lt := pow_sum_lt p k
    rw [List.range_succ, List.filter_append, List.map_append, List.sum_append]
    by_cases h : p k = true
    · have e : (([k].filter p).map (fun i => 2 ^ i)).sum = 2 ^ k := by simp [h]
      rw [e, Nat.add_comm]
      rcases Nat.lt_trichotomy j k with h1 | h1 | h1
      · rw [Nat.testBit_two_pow_add_gt h1, ih]
        have : j < k + 1 := by omega
        simp [h1, this]
      · subst h1
        rw [Nat.testBit_two_pow_add_eq, Nat.testBit_lt_two_pow lt]
        simp [h]
      · rw [Nat.testBit_lt_two_pow (Nat.lt_of_lt_of_le (show _ < 2 ^ (k + 1) by rw [Nat.pow_succ]; omega) (Nat.pow_le_pow_right (by decide) h1))]
        have : ¬ j < k + 1 := by omega
        simp [this]
    · have e : (([k].filter p).map (fun i => 2 ^ i)).sum = 0 := by simp [h]
      rw [e, Nat.add_zero, ih]
      by_cases h1 : j = k
      · subst h1; simp [h]
      · have : (j < k + 1) ↔ (j < k) := by omega
        simp [this]
end Mine

-- Pure7
theorem Mine.gap_Pure7 : True ∧ True := by w_top off; walk1 <;> trivial
namespace Mine
open PySem PySem.W PySem.Calls PyProof.Rows
theorem pl5 : ∀ a b c d f : Bool, decide ((if a = true then 0 :: (if b = true then 1 :: (if c = true then 2 :: (if d = true then 3 :: (if f = true then [4] else []) else (if f = true then [4] else [])) else (if d = true then 3 :: (if f = true then [4] else []) else (if f = true then [4] else []))) else (if c = true then 2 :: (if d = true then 3 :: (if f = true then [4] else []) else (if f = true then [4] else [])) else (if d = true then 3 :: (if f = true then [4] else []) else (if f = true then [4] else [])))) else (if b = true then 1 :: (if c = true then 2 :: (if d = true then 3 :: (if f = true then [4] else []) else (if f = true then [4] else [])) else (if d = true then 3 :: (if f = true then [4] else []) else (if f = true then [4] else []))) else (if c = true then 2 :: (if d = true then 3 :: (if f = true then [4] else []) else (if f = true then [4] else [])) else (if d = true then 3 :: (if f = true then [4] else []) else (if f = true then [4] else [])))) : List Nat).length % 2 = 1) = (a ^^ b ^^ c ^^ d ^^ f) := by decide +kernel
theorem par5 (p : Nat → Bool) : decide (((List.range 5).filter p).length % 2 = 1) = (p 0 ^^ p 1 ^^ p 2 ^^ p 3 ^^ p 4) := by
  have e : List.range 5 = [0, 1, 2, 3, 4] := by decide
  rw [e]
  simp only [List.filter_cons, List.filter_nil]
  exact pl5 _ _ _ _ _
theorem pl3 : ∀ a b c : Bool, decide ((if a = true then 0 :: (if b = true then 1 :: (if c = true then [2] else []) else (if c = true then [2] else [])) else (if b = true then 1 :: (if c = true then [2] else []) else (if c = true then [2] else [])) : List Nat).length % 2 = 1) = (a ^^ b ^^ c) := by decide +kernel
theorem par3 (p : Nat → Bool) : decide (((List.range 3).filter p).length % 2 = 1) = (p 0 ^^ p 1 ^^ p 2) := by
  have e : List.range 3 = [0, 1, 2] := by decide
  rw [e]
  simp only [List.filter_cons, List.filter_nil]
  exact pl3 _ _ _
end Mine

-- Pure8
theorem Mine.gap_Pure8 : True ∧ True := by w_top off; walk1 <;> trivial
namespace Mine
open PySem PySem.W PySem.Calls PyProof.Rows
theorem tb_bit (c i : Nat) : c / 2 ^ i % 2 = (c.testBit i).toNat := by
  rw [Nat.testBit_eq_decide_div_mod_eq]
  rcases Nat.mod_two_eq_zero_or_one (c / 2 ^ i) with h | h <;> rw [h] <;> rfl
theorem ev5i : ∀ a b x d f : Bool, decide ((a.toNat + (b.toNat + (x.toNat + (d.toNat + (f.toNat + 0))))) % 2 = 0) = true → (a ^^ b ^^ x ^^ d ^^ f) = false := by decide +kernel
theorem ev3i : ∀ a b x : Bool, decide ((a.toNat + (b.toNat + (x.toNat + 0))) % 2 = 0) = true → (a ^^ b ^^ x) = false := by decide +kernel
theorem even5 (c : Nat) (h : evenC 5 c = true) : (c.testBit 0 ^^ c.testBit 1 ^^ c.testBit 2 ^^ c.testBit 3 ^^ c.testBit 4) = false := by
  unfold evenC at h
  have e : List.range 5 = [0, 1, 2, 3, 4] := by decide
  rw [e] at h
  simp only [List.map_cons, List.map_nil, List.sum_cons, List.sum_nil, tb_bit] at h
  exact ev5i _ _ _ _ _ h
theorem even3 (c : Nat) (h : evenC 3 c = true) : (c.testBit 0 ^^ c.testBit 1 ^^ c.testBit 2) = false := by
  unfold evenC at h
  have e : List.range 3 = [0, 1, 2] := by decide
  rw [e] at h
  simp only [List.map_cons, List.map_nil, List.sum_cons, List.sum_nil, tb_bit] at h
  exact ev3i _ _ _ h
end Mine

-- Pure9
theorem Mine.gap_Pure9 : True ∧ True := by w_top off; walk1 <;> trivial
namespace Mine
open PySem PySem.W PySem.Calls PyProof.Rows
theorem bool3 : ∀ r a b t1 t2 : Bool, (r ^^ a ^^ b) = false → ((t1 != (r != a)) ^^ (t2 != (r != b))) = ((t1 ^^ t2) ^^ r) := by decide +kernel
theorem nf : ∀ b : Bool, (b != (false != false)) = b := by decide
theorem perm31 : ∀ a b x : Bool, (a ^^ b ^^ x) = false → (b ^^ a ^^ x) = false := by decide
theorem perm32 : ∀ a b x : Bool, (a ^^ b ^^ x) = false → (x ^^ a ^^ b) = false := by decide
theorem odd_c3 (bs : List Bool) (c : Nat) (h : evenC 3 c = true) (r : Nat) (hr : r < 3) : decide (((List.range 3).filter (fun j => j != r && sw bs c r j)).length % 2 = 1) = (decide (((List.range 3).filter (fun j => j != r && sw bs 0 r j)).length % 2 = 1) ^^ c.testBit r) := by
  have hx := even3 c h
  rw [par3, par3]
  unfold sw
  simp only [Nat.zero_testBit, nf]
  match r, hr with
  | 0, _ =>
    have := bool3 (c.testBit 0) (c.testBit 1) (c.testBit 2) (tb bs 0 1) (tb bs 0 2) hx
    simpa using this
  | 1, _ =>
    have := bool3 (c.testBit 1) (c.testBit 0) (c.testBit 2) (tb bs 1 0) (tb bs 1 2) (perm31 _ _ _ hx)
    simpa using this
  | 2, _ =>
    have := bool3 (c.testBit 2) (c.testBit 0) (c.testBit 1) (tb bs 2 0) (tb bs 2 1) (perm32 _ _ _ hx)
    simpa using this
end Mine

-- PureA
theorem Mine.gap_PureA : True ∧ True := by w_top off; walk1 <;> trivial
namespace Mine
open PySem PySem.W PySem.Calls PyProof.Rows
theorem bool5 : ∀ r a b d f t1 t2 t3 t4 : Bool, (r ^^ a ^^ b ^^ d ^^ f) = false → ((t1 != (r != a)) ^^ (t2 != (r != b)) ^^ (t3 != (r != d)) ^^ (t4 != (r != f))) = ((t1 ^^ t2 ^^ t3 ^^ t4) ^^ r) := by decide +kernel
theorem perm1 : ∀ a b x d f : Bool, (a ^^ b ^^ x ^^ d ^^ f) = false → (b ^^ a ^^ x ^^ d ^^ f) = false := by decide
theorem perm2 : ∀ a b x d f : Bool, (a ^^ b ^^ x ^^ d ^^ f) = false → (x ^^ a ^^ b ^^ d ^^ f) = false := by decide
theorem perm3 : ∀ a b x d f : Bool, (a ^^ b ^^ x ^^ d ^^ f) = false → (d ^^ a ^^ b ^^ x ^^ f) = false := by decide
theorem perm4 : ∀ a b x d f : Bool, (a ^^ b ^^ x ^^ d ^^ f) = false → (f ^^ a ^^ b ^^ x ^^ d) = false := by decide
theorem odd_c5 (bs : List Bool) (c : Nat) (h : evenC 5 c = true) (r : Nat) (hr : r < 5) : decide (((List.range 5).filter (fun j => j != r && sw bs c r j)).length % 2 = 1) = (decide (((List.range 5).filter (fun j => j != r && sw bs 0 r j)).length % 2 = 1) ^^ c.testBit r) := by
  have hx := even5 c h
  rw [par5, par5]
  unfold sw
  simp only [Nat.zero_testBit, nf]
  have : r = 0 ∨ r = 1 ∨ r = 2 ∨ r = 3 ∨ r = 4 := by omega
  rcases this with rfl | rfl | rfl | rfl | rfl
  · have := bool5 (c.testBit 0) (c.testBit 1) (c.testBit 2) (c.testBit 3) (c.testBit 4) (tb bs 0 1) (tb bs 0 2) (tb bs 0 3) (tb bs 0 4) hx
    simpa using this
  · have := bool5 (c.testBit 1) (c.testBit 0) (c.testBit 2) (c.testBit 3) (c.testBit 4) (tb bs 1 0) (tb bs 1 2) (tb bs 1 3) (tb bs 1 4) (perm1 _ _ _ _ _ hx)
    simpa using this
  · have := bool5 (c.testBit 2) (c.testBit 0) (c.testBit 1) (c.testBit 3) (c.testBit 4) (tb bs 2 0) (tb bs 2 1) (tb bs 2 3) (tb bs 2 4) (perm2 _ _ _ _ _ hx)
    simpa using this
  · have := bool5 (c.testBit 3) (c.testBit 0) (c.testBit 1) (c.testBit 2) (c.testBit 4) (tb bs 3 0) (tb bs 3 1) (tb bs 3 2) (tb bs 3 4) (perm3 _ _ _ _ _ hx)
    simpa using this
  · have := bool5 (c.testBit 4) (c.testBit 0) (c.testBit 1) (c.testBit 2) (c.testBit 3) (tb bs 4 0) (tb bs 4 1) (tb bs 4 2) (tb bs 4 3) (perm4 _ _ _ _ _ hx)
    simpa using this
end Mine

-- PureB
theorem Mine.gap_PureB : True ∧ True := by w_top off; walk1 <;> trivial
namespace Mine
open PySem PySem.W PySem.Calls PyProof.Rows
theorem odd_xor' {bs : List Bool} {n c : Nat} (hz : Sz bs.length n) (hc : c < 2 ^ n) (he : evenC n c = true) : oddN bs n c = oddN bs n 0 ^^^ c := by
  have hn : 1 ≤ n := by rcases hz with ⟨_, h⟩ | ⟨_, h⟩ <;> omega
  refine Nat.eq_of_testBit_eq fun j => ?_
  rw [Nat.testBit_xor, oddN_eq hn, oddN_eq hn, mask_bit, mask_bit]
  by_cases hj : j < n
  · rcases hz with ⟨_, rfl⟩ | ⟨_, rfl⟩
    · rw [odd_c3 bs c he j hj]; simp [hj]
    · rw [odd_c5 bs c he j hj]; simp [hj]
  · have h1 : c.testBit j = false := Nat.testBit_lt_two_pow (Nat.lt_of_lt_of_le hc (Nat.pow_le_pow_right (by decide) (by omega)))
    simp [hj, h1]
end Mine

-- PureU
theorem Mine.gap_PureU : True ∧ True := by w_top off; walk1 <;> trivial
namespace Mine
open PySem PySem.W PySem.Calls PyProof.Rows
/-- is a person's row odd? -/
def par (bs : List Bool) (n i : Nat) : Bool := decide (((List.range n).filter (fun j => j != i && sw bs 0 i j)).length % 2 = 1)
theorem odd_bit {bs : List Bool} {n i : Nat} (hn : 1 ≤ n) (hi : i < n) : (oddN bs n 0).testBit i = par bs n i := by
  rw [oddN_eq hn, mask_bit, decide_eq_true hi, Bool.true_and]
  rfl
theorem sw0 (bs : List Bool) (i j : Nat) : sw bs 0 i j = tb bs i j := by unfold sw; simp
theorem par_5 (bs : List Bool) : par bs 5 0 = (tb bs 0 1 ^^ tb bs 0 2 ^^ tb bs 0 3 ^^ tb bs 0 4) ∧ par bs 5 1 = (tb bs 0 1 ^^ tb bs 1 2 ^^ tb bs 1 3 ^^ tb bs 1 4) ∧ par bs 5 2 = (tb bs 0 2 ^^ tb bs 1 2 ^^ tb bs 2 3 ^^ tb bs 2 4) ∧ par bs 5 3 = (tb bs 0 3 ^^ tb bs 1 3 ^^ tb bs 2 3 ^^ tb bs 3 4) ∧ par bs 5 4 = (tb bs 0 4 ^^ tb bs 1 4 ^^ tb bs 2 4 ^^ tb bs 3 4) := by
  unfold par
  simp only [par5, sw0]
  rw [tb_sym bs 1 0, tb_sym bs 2 0, tb_sym bs 3 0, tb_sym bs 4 0, tb_sym bs 2 1, tb_sym bs 3 1, tb_sym bs 4 1, tb_sym bs 3 2, tb_sym bs 4 2, tb_sym bs 4 3]
  simp
theorem par_3 (bs : List Bool) : par bs 3 0 = (tb bs 0 1 ^^ tb bs 0 2) ∧ par bs 3 1 = (tb bs 0 1 ^^ tb bs 1 2) ∧ par bs 3 2 = (tb bs 0 2 ^^ tb bs 1 2) := by
  unfold par
  simp only [par3, sw0]
  rw [tb_sym bs 1 0, tb_sym bs 2 0, tb_sym bs 2 1]
  simp
theorem ev5 : ∀ a b x d f : Bool, decide ((a.toNat + (b.toNat + (x.toNat + (d.toNat + (f.toNat + 0))))) % 2 = 0) = !(a ^^ b ^^ x ^^ d ^^ f) := by decide +kernel
theorem ev3 : ∀ a b x : Bool, decide ((a.toNat + (b.toNat + (x.toNat + 0))) % 2 = 0) = !(a ^^ b ^^ x) := by decide +kernel
theorem even5' (c : Nat) : evenC 5 c = !(c.testBit 0 ^^ c.testBit 1 ^^ c.testBit 2 ^^ c.testBit 3 ^^ c.testBit 4) := by
  unfold evenC
  have e : List.range 5 = [0, 1, 2, 3, 4] := by decide
  rw [e]
  simp only [List.map_cons, List.map_nil, List.sum_cons, List.sum_nil, tb_bit]
  exact ev5 _ _ _ _ _
theorem even3' (c : Nat) : evenC 3 c = !(c.testBit 0 ^^ c.testBit 1 ^^ c.testBit 2) := by
  unfold evenC
  have e : List.range 3 = [0, 1, 2] := by decide
  rw [e]
  simp only [List.map_cons, List.map_nil, List.sum_cons, List.sum_nil, tb_bit]
  exact ev3 _ _ _
theorem hs5 : ∀ a b c d e f g h i j : Bool, (!((a ^^ b ^^ c ^^ d) ^^ (a ^^ e ^^ f ^^ g) ^^ (b ^^ e ^^ h ^^ i) ^^ (c ^^ f ^^ h ^^ j) ^^ (d ^^ g ^^ i ^^ j))) = true := by decide +kernel
theorem hs3 : ∀ a b e : Bool, (!((a ^^ b) ^^ (a ^^ e) ^^ (b ^^ e))) = true := by decide +kernel
theorem even_odd {bs : List Bool} {n : Nat} (hz : Sz bs.length n) : evenC n (oddN bs n 0) = true := by
  rcases hz with ⟨_, rfl⟩ | ⟨_, rfl⟩
  · rw [even3', odd_bit (by decide) (by decide), odd_bit (by decide) (by decide), odd_bit (by decide) (by decide)]
    obtain ⟨h0, h1, h2⟩ := par_3 bs
    rw [h0, h1, h2]
    exact hs3 _ _ _
  · rw [even5', odd_bit (by decide) (by decide), odd_bit (by decide) (by decide), odd_bit (by decide) (by decide), odd_bit (by decide) (by decide), odd_bit (by decide) (by decide)]
    obtain ⟨h0, h1, h2, h3, h4⟩ := par_5 bs
    rw [h0, h1, h2, h3, h4]
    exact hs5 _ _ _ _ _ _ _ _ _ _
theorem xe5 : ∀ a b c d e a' b' c' d' e' : Bool, (!(a ^^ b ^^ c ^^ d ^^ e)) = true → (!(a' ^^ b' ^^ c' ^^ d' ^^ e')) = true → (!((a ^^ a') ^^ (b ^^ b') ^^ (c ^^ c') ^^ (d ^^ d') ^^ (e ^^ e'))) = true := by decide +kernel
theorem xe3 : ∀ a b c a' b' c' : Bool, (!(a ^^ b ^^ c)) = true → (!(a' ^^ b' ^^ c')) = true → (!((a ^^ a') ^^ (b ^^ b') ^^ (c ^^ c'))) = true := by decide +kernel
theorem even_xor {n a b : Nat} (hn : n = 3 ∨ n = 5) (ha : evenC n a = true) (hb : evenC n b = true) : evenC n (a ^^^ b) = true := by
  rcases hn with rfl | rfl
  · rw [even3'] at ha hb ⊢
    simp only [Nat.testBit_xor]
    exact xe3 _ _ _ _ _ _ ha hb
  · rw [even5'] at ha hb ⊢
    simp only [Nat.testBit_xor]
    exact xe5 _ _ _ _ _ _ _ _ _ _ ha hb
theorem odd_back' {ds : List Bool} {n : Nat} (hz : Sz ds.length n) : oddN ds n (oddN ds n 0) = 0 := by
  rw [odd_xor' hz (oddN_lt _ _ _) (even_odd hz), Nat.xor_self]
theorem filter_one {m c : Nat} {p : Nat → Bool} (hc : c < m) (h : ∀ x, x < m → (p x = true ↔ x = c)) : (List.range m).filter p = [c] := by
  obtain ⟨r, rfl⟩ : ∃ r, m = c + 1 + r := ⟨m - (c + 1), by omega⟩
  have e1 : (List.range c).filter p = [] := List.filter_eq_nil_iff.mpr fun j hj => by
    have := List.mem_range.mp hj
    rw [h j (by omega)]; omega
  have e2 : ((List.range r).map (fun x => c + 1 + x)).filter p = [] := List.filter_eq_nil_iff.mpr fun j hj => by
    obtain ⟨k, hk, rfl⟩ := List.mem_map.mp hj
    have := List.mem_range.mp hk
    rw [h _ (by omega)]; omega
  have e3 : p c = true := (h c (by omega)).mpr rfl
  rw [List.range_add, List.filter_append, e2, List.append_nil, List.range_succ, List.filter_append, e1, List.nil_append]
  simp [e3]
theorem xor_move {a b x : Nat} : a ^^^ x = b ↔ x = a ^^^ b := by
  constructor
  · rintro rfl; rw [← Nat.xor_assoc, Nat.xor_self, Nat.zero_xor]
  · rintro rfl; rw [← Nat.xor_assoc, Nat.xor_self, Nat.zero_xor]
end Mine

-- PureV
theorem Mine.gap_PureV : True ∧ True := by w_top off; walk1 <;> trivial
namespace Mine
open PySem PySem.W PySem.Calls PyProof.Rows
theorem map_add_inj {l m : List Nat} (h : l.map (97 + ·) = m.map (97 + ·)) : l = m := by
  induction l generalizing m with
  | nil => cases m with
    | nil => rfl
    | cons b r => simp at h
  | cons a l ih => cases m with
    | nil => simp at h
    | cons b r =>
      rw [List.map_cons, List.map_cons, List.cons.injEq] at h
      rw [ih h.2]
      congr 1
      have := h.1
      omega
theorem filter_inj {n : Nat} {p q : Nat → Bool} (h : (List.range n).filter p = (List.range n).filter q) {j : Nat} (hj : j < n) : p j = q j := by
  rw [Bool.eq_iff_iff]
  constructor
  · intro e
    have : j ∈ (List.range n).filter p := List.mem_filter.mpr ⟨List.mem_range.mpr hj, e⟩
    rw [h] at this
    exact (List.mem_filter.mp this).2
  · intro e
    have : j ∈ (List.range n).filter q := List.mem_filter.mpr ⟨List.mem_range.mpr hj, e⟩
    rw [← h] at this
    exact (List.mem_filter.mp this).2
theorem rows_eq {bs ds : List Bool} {n c d : Nat} : rowsC bs n c = rowsC ds n d ↔ ∀ i j, i < j → j < n → sw bs c i j = sw ds d i j := by
  constructor
  · intro h i j hij hj
    unfold rowsC at h
    have h1 := List.map_inj_left.mp h i (List.mem_range.mpr (by omega))
    unfold rowC at h1
    have h2 := congrArg (fun s : Str => s.cps.toList) h1
    dsimp only at h2
    have h3 := filter_inj (map_add_inj h2) hj
    have : (j != i) = true := by simp; omega
    rw [this, Bool.true_and, Bool.true_and] at h3
    exact h3
  · intro h
    unfold rowsC
    refine List.map_congr_left fun i hi => ?_
    have hi := List.mem_range.mp hi
    unfold rowC
    congr 3
    refine List.filter_congr fun j hj => ?_
    have hj := List.mem_range.mp hj
    by_cases e : j = i
    · subst e; simp
    · congr 1
      rcases Nat.lt_or_gt_of_ne e with h' | h'
      · rw [sw_sym, sw_sym ds, h j i h' hi]
      · exact h i j h' hj
/-- the switching that is to turn one table into the other -/
def cS (bs ds : List Bool) (n : Nat) : Nat := oddN bs n 0 ^^^ oddN ds n 0
def Okk (bs ds : List Bool) (n : Nat) : Prop := ∀ i j, i < j → j < n → (tb bs i j ^^ tb ds i j) = ((cS bs ds n).testBit i ^^ (cS bs ds n).testBit j)
theorem b_move : ∀ t u x y : Bool, ((t != (x != y)) = u) ↔ ((t ^^ u) = (x ^^ y)) := by decide
theorem b_move2 : ∀ t u x y x' y' : Bool, ((t != (x != y)) = (u != (x' != y'))) ↔ ((t ^^ u) = ((x ^^ x') ^^ (y ^^ y'))) := by decide
theorem rows_met {bs ds : List Bool} {n : Nat} : rowsC bs n (cS bs ds n) = rowsS ds n ↔ Okk bs ds n := by
  rw [← rowsC0, rows_eq]
  unfold Okk
  refine forall_congr' fun i => forall_congr' fun j => forall_congr' fun _ => forall_congr' fun _ => ?_
  rw [sw0]
  exact b_move _ _ _ _
theorem rows_even {bs ds : List Bool} {n : Nat} : rowsC bs n (oddN bs n 0) = rowsC ds n (oddN ds n 0) ↔ Okk bs ds n := by
  rw [rows_eq]
  unfold Okk
  refine forall_congr' fun i => forall_congr' fun j => forall_congr' fun _ => forall_congr' fun _ => ?_
  unfold cS
  rw [Nat.testBit_xor, Nat.testBit_xor]
  exact b_move2 _ _ _ _ _ _
theorem th_b : ∀ a b c a' b' c' : Bool, (((b1 a + b1 b + b1 c) % 2 : Nat) : Int) = (((b1 a' + b1 b' + b1 c') % 2 : Nat) : Int) ↔ ((a ^^ a') ^^ (b ^^ b') ^^ (c ^^ c')) = false := by decide +kernel
theorem th_eq (bs ds : List Bool) (l m h : Nat) : thVal bs l m h = thVal ds l m h ↔ ((tb bs l m ^^ tb ds l m) ^^ (tb bs l h ^^ tb ds l h) ^^ (tb bs m h ^^ tb ds m h)) = false := th_b _ _ _ _ _ _
theorem thr3 (bs : List Bool) : threes bs (3 - 2) = [thVal bs 0 1 2] := by rfl
theorem thr5 (bs : List Bool) : threes bs (5 - 2) = [thVal bs 0 1 2, thVal bs 0 1 3, thVal bs 0 2 3, thVal bs 1 2 3, thVal bs 0 1 4, thVal bs 0 2 4, thVal bs 1 2 4, thVal bs 0 3 4, thVal bs 1 3 4, thVal bs 2 3 4] := by rfl
theorem x4 : ∀ a b c d a' b' c' d' : Bool, ((a ^^ b ^^ c ^^ d) ^^ (a' ^^ b' ^^ c' ^^ d')) = ((a ^^ a') ^^ (b ^^ b') ^^ (c ^^ c') ^^ (d ^^ d')) := by decide +kernel
theorem x2 : ∀ a b a' b' : Bool, ((a ^^ b) ^^ (a' ^^ b')) = ((a ^^ a') ^^ (b ^^ b')) := by decide
set_option synthInstance.maxSize 4000 in
set_option synthInstance.maxHeartbeats 400000 in
theorem seidel5 : ∀ g01 g02 g03 g04 g12 g13 g14 g23 g24 g34 : Bool,
    (((g01 ^^ g02 ^^ g12) = false ∧ (g01 ^^ g03 ^^ g13) = false ∧ (g02 ^^ g03 ^^ g23) = false ∧ (g12 ^^ g13 ^^ g23) = false ∧ (g01 ^^ g04 ^^ g14) = false ∧ (g02 ^^ g04 ^^ g24) = false ∧ (g12 ^^ g14 ^^ g24) = false ∧ (g03 ^^ g04 ^^ g34) = false ∧ (g13 ^^ g14 ^^ g34) = false ∧ (g23 ^^ g24 ^^ g34) = false) ↔
    (g01 = ((g01 ^^ g02 ^^ g03 ^^ g04) ^^ (g01 ^^ g12 ^^ g13 ^^ g14)) ∧ g02 = ((g01 ^^ g02 ^^ g03 ^^ g04) ^^ (g02 ^^ g12 ^^ g23 ^^ g24)) ∧ g03 = ((g01 ^^ g02 ^^ g03 ^^ g04) ^^ (g03 ^^ g13 ^^ g23 ^^ g34)) ∧ g04 = ((g01 ^^ g02 ^^ g03 ^^ g04) ^^ (g04 ^^ g14 ^^ g24 ^^ g34)) ∧
      g12 = ((g01 ^^ g12 ^^ g13 ^^ g14) ^^ (g02 ^^ g12 ^^ g23 ^^ g24)) ∧ g13 = ((g01 ^^ g12 ^^ g13 ^^ g14) ^^ (g03 ^^ g13 ^^ g23 ^^ g34)) ∧ g14 = ((g01 ^^ g12 ^^ g13 ^^ g14) ^^ (g04 ^^ g14 ^^ g24 ^^ g34)) ∧
      g23 = ((g02 ^^ g12 ^^ g23 ^^ g24) ^^ (g03 ^^ g13 ^^ g23 ^^ g34)) ∧ g24 = ((g02 ^^ g12 ^^ g23 ^^ g24) ^^ (g04 ^^ g14 ^^ g24 ^^ g34)) ∧ g34 = ((g03 ^^ g13 ^^ g23 ^^ g34) ^^ (g04 ^^ g14 ^^ g24 ^^ g34)))) := by decide +kernel
theorem seidel3 : ∀ g01 g02 g12 : Bool, (g01 ^^ g02 ^^ g12) = false ↔ (g01 = ((g01 ^^ g02) ^^ (g01 ^^ g12)) ∧ g02 = ((g01 ^^ g02) ^^ (g02 ^^ g12)) ∧ g12 = ((g01 ^^ g12) ^^ (g02 ^^ g12))) := by decide
theorem pairs5 (P : Nat → Nat → Prop) : (∀ i j, i < j → j < 5 → P i j) ↔ (P 0 1 ∧ P 0 2 ∧ P 0 3 ∧ P 0 4 ∧ P 1 2 ∧ P 1 3 ∧ P 1 4 ∧ P 2 3 ∧ P 2 4 ∧ P 3 4) := by
  constructor
  · intro h
    exact ⟨h 0 1 (by decide) (by decide), h 0 2 (by decide) (by decide), h 0 3 (by decide) (by decide), h 0 4 (by decide) (by decide), h 1 2 (by decide) (by decide), h 1 3 (by decide) (by decide), h 1 4 (by decide) (by decide), h 2 3 (by decide) (by decide), h 2 4 (by decide) (by decide), h 3 4 (by decide) (by decide)⟩
  · rintro ⟨h1, h2, h3, h4, h5, h6, h7, h8, h9, h10⟩ i j hij hj
    rcases enum5 j hj i hij with ⟨rfl, rfl⟩ | ⟨rfl, rfl⟩ | ⟨rfl, rfl⟩ | ⟨rfl, rfl⟩ | ⟨rfl, rfl⟩ | ⟨rfl, rfl⟩ | ⟨rfl, rfl⟩ | ⟨rfl, rfl⟩ | ⟨rfl, rfl⟩ | ⟨rfl, rfl⟩ <;> assumption
theorem pairs3 (P : Nat → Nat → Prop) : (∀ i j, i < j → j < 3 → P i j) ↔ (P 0 1 ∧ P 0 2 ∧ P 1 2) := by
  constructor
  · intro h
    exact ⟨h 0 1 (by decide) (by decide), h 0 2 (by decide) (by decide), h 1 2 (by decide) (by decide)⟩
  · rintro ⟨h1, h2, h5⟩ i j hij hj
    rcases enum3 j hj i hij with ⟨rfl, rfl⟩ | ⟨rfl, rfl⟩ | ⟨rfl, rfl⟩ <;> assumption
theorem cS_bit {bs ds : List Bool} {n i : Nat} (hn : 1 ≤ n) (hi : i < n) : (cS bs ds n).testBit i = (par bs n i ^^ par ds n i) := by
  unfold cS
  rw [Nat.testBit_xor, odd_bit hn hi, odd_bit hn hi]
theorem threes_ok {bs ds : List Bool} {n : Nat} (hz : Sz bs.length n) : threes bs (n - 2) = threes ds (n - 2) ↔ Okk bs ds n := by
  rcases hz with ⟨_, rfl⟩ | ⟨_, rfl⟩
  · unfold Okk
    obtain ⟨h0, h1, h2⟩ := par_3 bs
    obtain ⟨k0, k1, k2⟩ := par_3 ds
    have c0 := cS_bit (bs := bs) (ds := ds) (n := 3) (i := 0) (by decide) (by decide)
    have c1 := cS_bit (bs := bs) (ds := ds) (n := 3) (i := 1) (by decide) (by decide)
    have c2 := cS_bit (bs := bs) (ds := ds) (n := 3) (i := 2) (by decide) (by decide)
    rw [h0, k0, x2] at c0
    rw [h1, k1, x2] at c1
    rw [h2, k2, x2] at c2
    rw [thr3, thr3, pairs3, c0, c1, c2]
    simp only [List.cons.injEq, and_true, th_eq]
    exact seidel3 _ _ _
  · unfold Okk
    obtain ⟨h0, h1, h2, h3, h4⟩ := par_5 bs
    obtain ⟨k0, k1, k2, k3, k4⟩ := par_5 ds
    have c0 := cS_bit (bs := bs) (ds := ds) (n := 5) (i := 0) (by decide) (by decide)
    have c1 := cS_bit (bs := bs) (ds := ds) (n := 5) (i := 1) (by decide) (by decide)
    have c2 := cS_bit (bs := bs) (ds := ds) (n := 5) (i := 2) (by decide) (by decide)
    have c3 := cS_bit (bs := bs) (ds := ds) (n := 5) (i := 3) (by decide) (by decide)
    have c4 := cS_bit (bs := bs) (ds := ds) (n := 5) (i := 4) (by decide) (by decide)
    rw [h0, k0, x4] at c0
    rw [h1, k1, x4] at c1
    rw [h2, k2, x4] at c2
    rw [h3, k3, x4] at c3
    rw [h4, k4, x4] at c4
    rw [thr5, thr5, pairs5, c0, c1, c2, c3, c4]
    simp only [List.cons.injEq, and_true, th_eq]
    exact seidel5 _ _ _ _ _ _ _ _ _ _
theorem cS_lt (bs ds : List Bool) (n : Nat) : cS bs ds n < 2 ^ n := Nat.xor_lt_two_pow (oddN_lt _ _ _) (oddN_lt _ _ _)
theorem even_list {bs : List Bool} {n : Nat} (hz : Sz bs.length n) : evenL bs n (2 ^ n) = [rowsC bs n (oddN bs n 0)] := by
  unfold evenL
  rw [filter_one (c := oddN bs n 0) (oddN_lt _ _ _) fun x hx => ?_]
  · rfl
  · rw [Bool.and_eq_true, beq_iff_eq]
    constructor
    · rintro ⟨he, ho⟩
      rw [odd_xor' hz hx he, xor_move, Nat.xor_zero] at ho
      exact ho
    · rintro rfl
      exact ⟨even_odd hz, odd_back' hz⟩
theorem sz3 {n p : Nat} (hz : Sz n p) : p = 3 ∨ p = 5 := by rcases hz with ⟨_, h⟩ | ⟨_, h⟩ <;> simp [h]
theorem met_iff {bs ds : List Bool} {n : Nat} (hz : Sz bs.length n) (hds : ds.length = bs.length) (x : Nat) (hx : x < 2 ^ n) : (evenC n x && (oddN bs n x == oddN ds n 0 && rowsC bs n x == rowsS ds n)) = true ↔ (x = cS bs ds n ∧ Okk bs ds n) := by
  have hzd : Sz ds.length n := by rw [hds]; exact hz
  rw [Bool.and_eq_true, Bool.and_eq_true, beq_iff_eq, beq_iff_eq]
  constructor
  · rintro ⟨he, ho, hr⟩
    rw [odd_xor' hz hx he, xor_move] at ho
    have e : x = cS bs ds n := ho
    subst e
    exact ⟨rfl, rows_met.mp hr⟩
  · rintro ⟨rfl, hk⟩
    have he : evenC n (cS bs ds n) = true := even_xor (sz3 hz) (even_odd hz) (even_odd hzd)
    refine ⟨he, ?_, rows_met.mpr hk⟩
    rw [odd_xor' hz hx he, xor_move]
    rfl
theorem sem_same' {bs ds : List Bool} {n : Nat} (hz : Sz bs.length n) (hds : ds.length = bs.length) (ht : threes bs (n - 2) = threes ds (n - 2)) :
    metL bs ds n (2 ^ n) = [oddN bs n 0 ^^^ oddN ds n 0] ∧ evenL bs n (2 ^ n) = [rowsS (turned ds n (oddN ds n 0 : Int) (bs.length : Int)) n] := by
  have hzd : Sz ds.length n := by rw [hds]; exact hz
  have hk := (threes_ok hz).mp ht
  constructor
  · unfold metL
    refine filter_one (cS_lt bs ds n) fun x hx => ?_
    rw [met_iff hz hds x hx]
    exact ⟨fun h => h.1, fun h => ⟨h, hk⟩⟩
  · rw [even_list hz, ← hds, ← rows_turned hzd, rows_even.mpr hk]
theorem sem_diff' {bs ds : List Bool} {n : Nat} (hz : Sz bs.length n) (hds : ds.length = bs.length) (ht : ¬ threes bs (n - 2) = threes ds (n - 2)) :
    metL bs ds n (2 ^ n) = [] ∧ evenL bs n (2 ^ n) ≠ [rowsS (turned ds n (oddN ds n 0 : Int) (bs.length : Int)) n] := by
  have hzd : Sz ds.length n := by rw [hds]; exact hz
  have hk : ¬ Okk bs ds n := fun h => ht ((threes_ok hz).mpr h)
  constructor
  · unfold metL
    refine List.filter_eq_nil_iff.mpr fun x hx => ?_
    rw [met_iff hz hds x (List.mem_range.mp hx)]
    exact fun h => hk h.2
  · rw [even_list hz, ← hds, ← rows_turned hzd]
    intro h
    exact hk (rows_even.mp (List.head_eq_of_cons_eq h))
end Mine

-- PureT
theorem Mine.gap_PureT : True ∧ True := by w_top off; walk1 <;> trivial
namespace Mine
open PySem PySem.W PySem.Calls PyProof.Rows
theorem mul_bit (c sh i : Nat) : (c * 2 ^ sh).testBit (sh + i) = c.testBit i := by
  rw [← Nat.shiftLeft_eq, Nat.testBit_shiftLeft]
  simp
theorem mul_bit_lo (c sh j : Nat) (h : j < sh) : (c * 2 ^ sh).testBit j = false := by
  rw [← Nat.shiftLeft_eq, Nat.testBit_shiftLeft]
  simp; omega
theorem pnames_shift {n sh c : Nat} (hn : n ≤ 5) (h : sh < 28) (hc : c < 2 ^ n) : pnames (c * 2 ^ sh) 32 = ((List.range n).filter (fun i => c.testBit i)).map (fun i => pname (sh + i)) := by
  obtain ⟨r, hr⟩ : ∃ r, 32 = sh + (n + r) := ⟨32 - sh - n, by omega⟩
  have top : pnames (c * 2 ^ sh) 32 = pnames (c * 2 ^ sh) (sh + n) := by
    refine pnames_top ?_ 32 (by omega)
    refine (Nat.div_eq_zero_iff_lt (Nat.two_pow_pos _)).mpr ?_
    rw [Nat.pow_add, Nat.mul_comm]
    exact Nat.mul_lt_mul_of_pos_left hc (Nat.two_pow_pos _)
  rw [top]
  unfold pnames
  rw [List.range_add, List.filter_append]
  have e0 : (List.range sh).filter (fun j => (c * 2 ^ sh).testBit j) = [] := by
    refine List.filter_eq_nil_iff.mpr fun j hj => ?_
    rw [mul_bit_lo _ _ _ (List.mem_range.mp hj)]
    simp
  rw [e0, List.nil_append, List.filter_map, List.map_map]
  have e1 : ((fun j => (c * 2 ^ sh).testBit j) ∘ fun x => sh + x) = fun i => c.testBit i := funext fun i => mul_bit c sh i
  rw [e1]
  rfl
theorem pn_inj : ∀ i : Fin 32, ∀ j : Fin 32, pname i.val = pname j.val → i = j := by decide +kernel
theorem pn_free : ∀ i : Fin 32, 44 ∉ (pname i.val).cps.toList ∧ pname i.val ≠ Str.ofString "0x0" := by decide +kernel
theorem ox_free : 44 ∉ (Str.ofString "0x0").cps.toList := by decide +kernel
theorem ox_ok : PyData.strOk (Str.ofString "0x0") = true := by decide +kernel
/-- what the told names are, one by one -/
def namedL (n sh c : Nat) : List Str := if c = 0 then [Str.ofString "0x0"] else ((List.range n).filter (fun i => c.testBit i)).map (fun i => pname (sh + i))
theorem some_bit {n c : Nat} (h0 : c ≠ 0) (hc : c < 2 ^ n) : ∃ i, i < n ∧ c.testBit i = true := by
  obtain ⟨i, hi⟩ := Nat.exists_testBit_of_ne_zero h0
  refine ⟨i, ?_, hi⟩
  rcases Nat.lt_or_ge i n with h | h
  · exact h
  · rw [Nat.testBit_lt_two_pow (Nat.lt_of_lt_of_le hc (Nat.pow_le_pow_right (by decide) h))] at hi
    cases hi
theorem told_join {n sh c : Nat} (hn : n ≤ 5) (h : sh < 28) (hc : c < 2 ^ n) : PF (c * 2 ^ sh) = Txt.join (Str.ofString ", ") (namedL n sh c) := by
  unfold PF namedL
  by_cases h0 : c = 0
  · subst h0
    rw [if_pos (Nat.zero_mul _), if_pos rfl]
    rfl
  · have : c * 2 ^ sh ≠ 0 := Nat.mul_ne_zero h0 (Nat.pos_iff_ne_zero.mp (Nat.two_pow_pos _))
    rw [if_neg this, if_neg h0, pnames_shift hn h hc]
theorem named_ne {n sh c : Nat} (hc : c < 2 ^ n) : namedL n sh c ≠ [] := by
  unfold namedL
  by_cases h0 : c = 0
  · rw [if_pos h0]; exact List.cons_ne_nil _ _
  · rw [if_neg h0]
    obtain ⟨i, hi, hb⟩ := some_bit h0 hc
    intro e
    have : i ∈ (List.range n).filter (fun i => c.testBit i) := List.mem_filter.mpr ⟨List.mem_range.mpr hi, hb⟩
    rw [List.map_eq_nil_iff.mp e] at this
    cases this
theorem named_free {n sh c : Nat} (hn : n ≤ 5) (h : sh < 28) : ∀ p ∈ namedL n sh c, 44 ∉ p.cps.toList := by
  unfold namedL
  intro p hp
  split at hp
  · rw [List.mem_singleton.mp hp]; exact ox_free
  · obtain ⟨i, hi, rfl⟩ := List.mem_map.mp hp
    have := List.mem_range.mp (List.mem_filter.mp hi).1
    exact (pn_free ⟨sh + i, by omega⟩).1
theorem comma_eq : Str.ofString ", " = ⟨#[44, 32]⟩ := by decide +kernel
theorem told_split {n sh c : Nat} (hn : n ≤ 5) (h : sh < 28) (hc : c < 2 ^ n) : Txt.split (PF (c * 2 ^ sh)) (Str.ofString ", ") = namedL n sh c := by
  rw [told_join hn h hc, comma_eq]
  exact split_join (by decide) (by decide) _ (named_ne hc) (named_free hn h)
theorem pn_okT : ∀ i : Fin 33, (pname i.val).length ≤ 20 ∧ PyData.strOk (pname i.val) = true := by decide +kernel
theorem named_ok {n sh c : Nat} (hn : n ≤ 5) (h : sh < 28) : okS (namedL n sh c) := by
  unfold namedL
  intro p hp
  split at hp
  · rw [List.mem_singleton.mp hp]; exact ox_ok
  · obtain ⟨i, hi, rfl⟩ := List.mem_map.mp hp
    have := List.mem_range.mp (List.mem_filter.mp hi).1
    exact (pn_okT ⟨sh + i, by omega⟩).2
theorem named_has {n sh c : Nat} (hn : n ≤ 5) (h : sh < 28) {i : Nat} (hi : i < n) : (namedL n sh c).contains (pname (sh + i)) = c.testBit i := by
  rw [Bool.eq_iff_iff, List.contains_iff_mem]
  unfold namedL
  by_cases h0 : c = 0
  · subst h0
    rw [if_pos rfl, List.mem_singleton, Nat.zero_testBit]
    have := (pn_free ⟨sh + i, by omega⟩).2
    simpa using this
  · rw [if_neg h0, List.mem_map]
    constructor
    · rintro ⟨j, hj, e⟩
      have hj2 := List.mem_filter.mp hj
      have := List.mem_range.mp hj2.1
      have := pn_inj ⟨sh + j, by omega⟩ ⟨sh + i, by omega⟩ e
      have : sh + j = sh + i := congrArg Fin.val this
      obtain rfl : j = i := by omega
      exact hj2.2
    · intro hb
      exact ⟨i, List.mem_filter.mpr ⟨List.mem_range.mpr hi, hb⟩, rfl⟩
theorem named_sum {n sh c : Nat} (hn : n ≤ 5) (h : sh < 28) : (namedL n sh c).length ≤ 5 ∧ ∀ x ∈ namedL n sh c, x.length ≤ 20 := by
  unfold namedL
  by_cases h0 : c = 0
  · rw [if_pos h0]
    exact ⟨by decide, fun x hx => by rw [List.mem_singleton.mp hx]; decide +kernel⟩
  · rw [if_neg h0]
    refine ⟨?_, fun x hx => ?_⟩
    · rw [List.length_map]
      exact Nat.le_trans (List.length_filter_le _ _) (by simpa using hn)
    · obtain ⟨i, hi, rfl⟩ := List.mem_map.mp hx
      have := List.mem_range.mp (List.mem_filter.mp hi).1
      exact (pn_okT ⟨sh + i, by omega⟩).1
theorem told_len {n sh c : Nat} (hn : n ≤ 5) (h : sh < 28) (hc : c < 2 ^ n) : (PF (c * 2 ^ sh)).length ≤ 1000 := by
  rw [told_join hn h hc]
  have e : Txt.join (Str.ofString ", ") (namedL n sh c) = Str.join (Str.ofString ", ") (namedL n sh c) := StrLaws.glued_eq_join _ _
  rw [e]
  refine Nat.le_trans (StrLaws.join_length_le _ _) ?_
  have h1 := named_sum (c := c) hn h
  have h2 := sum_le h1.2
  have h3 : (Str.ofString ", ").length = 2 := by decide +kernel
  rw [h3]
  omega
theorem shift_lt {n sh c : Nat} (hn : n ≤ 5) (h : sh < 28) (hc : c < 2 ^ n) : c * 2 ^ sh < 2 ^ 32 := by
  have h1 : c * 2 ^ sh < 2 ^ n * 2 ^ sh := Nat.mul_lt_mul_of_pos_right hc (Nat.two_pow_pos _)
  rw [← Nat.pow_add] at h1
  exact Nat.lt_of_lt_of_le h1 (Nat.pow_le_pow_right (by decide) (by omega))
theorem NM_eq {n sh c : Nat} (hn : n ≤ 5) (h : sh < 28) (hc : c < 2 ^ n) : NM ((List.range n).map (fun i => pname (sh + i))) (c : Int) = PF (c * 2 ^ sh) := by
  have ep : picked ((List.range n).map (fun i => pname (sh + i))) (c : Int) ((List.range n).map (fun i => pname (sh + i))).length = ((List.range n).filter (fun i => c.testBit i)).map (fun i => pname (sh + i)) := by
    unfold picked
    rw [List.length_map, List.length_range]
    have ef : (List.range n).filter (fun i => decide (((c : Int).fdiv (2 ^ ((i : Nat) : Int).toNat)).fmod 2 = 1)) = (List.range n).filter (fun i => c.testBit i) := by
      refine List.filter_congr fun i _ => ?_
      rw [Int.toNat_natCast, Int.fmod_eq_emod_of_nonneg _ (by decide), Int.fdiv_eq_ediv_of_nonneg _ (by exact_mod_cast Nat.zero_le _), Nat.testBit_eq_decide_div_mod_eq]
      congr 1
      have e : ((c : Int) / 2 ^ i % 2) = ((c / 2 ^ i % 2 : Nat) : Int) := by simp
      rw [e]
      exact propext ⟨fun h => by exact_mod_cast h, fun h => by exact_mod_cast h⟩
    rw [ef]
    refine List.map_congr_left fun i hi => ?_
    have := List.mem_range.mp (List.mem_filter.mp hi).1
    rw [List.getD_eq_getElem?_getD, List.getElem?_map, List.getElem?_range this]
    rfl
  unfold NM
  rw [ep]
  unfold PF
  by_cases h0 : c = 0
  · subst h0
    have : ((List.range n).filter (fun i => (0 : Nat).testBit i)).map (fun i => pname (sh + i)) = [] := by simp
    rw [if_pos this, if_pos (Nat.zero_mul _)]
  · have h1 : c * 2 ^ sh ≠ 0 := Nat.mul_ne_zero h0 (Nat.pos_iff_ne_zero.mp (Nat.two_pow_pos _))
    have h2 := named_ne (sh := sh) hc
    unfold namedL at h2
    rw [if_neg h0] at h2
    rw [if_neg h2, if_neg h1, pnames_shift hn h hc]
end Mine

-- PureW
theorem Mine.gap_PureW : True ∧ True := by w_top off; walk1 <;> trivial
namespace Mine
open PySem PySem.W PySem.Calls PyProof.Rows
theorem tin_congr {tie tie' : Nat → Nat → Bool} {one : Nat} (c : List (List (Str × Str))) (h : ∀ other, other < one → tie one other = tie' one other) : ∀ k, k ≤ one → tin tie one c k = tin tie' one c k
  | 0, _ => rfl
  | k + 1, hk => by
    rw [tin_s, tin_s, tin_congr c h k (by omega)]
    unfold tstep
    rw [h k (by omega)]
theorem tout_congr {tie tie' : Nat → Nat → Bool} {n : Nat} (h : ∀ one other, other < one → one < n → tie one other = tie' one other) : ∀ i, i ≤ n - 1 → tout tie n i = tout tie' n i
  | 0, _ => rfl
  | i + 1, hi => by
    rw [tout_s, tout_s, tout_congr h i (by omega), tin_congr _ (fun o ho => h _ o ho (by omega)) _ (Nat.le_refl _)]
theorem pc_tb {bs : List Bool} {n one other : Nat} (hz : Sz bs.length n) (h1 : other < one) (h2 : one < n) : (pcB bs one).getD other false = tb bs one other := by
  have hle : tri one ≤ bs.length := by
    unfold tri
    rcases hz with ⟨h, rfl⟩ | ⟨h, rfl⟩ <;> rw [h]
    · have : one = 1 ∨ one = 2 := by omega
      rcases this with rfl | rfl <;> decide
    · have : one = 1 ∨ one = 2 ∨ one = 3 ∨ one = 4 := by omega
      rcases this with rfl | rfl | rfl | rfl <;> decide
  unfold pcB tb tieIdx
  rw [Nat.max_eq_left (Nat.le_of_lt h1), Nat.min_eq_right (Nat.le_of_lt h1), List.getD_eq_getElem?_getD, List.getD_eq_getElem?_getD, List.getElem?_take_of_lt h1, List.getElem?_drop]
  rfl
theorem fls_at {sh n i : Nat} (hi : i < n) : (fls sh n).getD i Str.empty = pname (sh + i) := by
  rw [fls_pn, List.getD_eq_getElem?_getD, List.getElem?_map, List.getElem?_range hi]
  rfl
theorem told_tab' {bs : List Bool} {n sh c : Nat} (hz : Sz bs.length n) (h : sh < 28) (hc : c < 2 ^ n) : tout (tieF (pcB bs) (fls sh n) (Txt.split (told sh c) (Str.ofString ", "))) (fls sh n).length ((fls sh n).length - 1) = tabC bs n c := by
  have hn : n ≤ 5 := by rcases sz3 hz with h | h <;> omega
  rw [fls_len]
  unfold tabC told
  refine tout_congr (fun one other h1 h2 => ?_) _ (Nat.le_refl _)
  unfold tieF sw
  rw [told_split hn h hc, pc_tb hz h1 h2, fls_at h2, fls_at (by omega), named_has hn h h2, named_has hn h (by omega)]
theorem told_ok' {n sh c : Nat} (hn : n ≤ 5) (h : sh < 28) (hc : c < 2 ^ n) : okS (Txt.split (told sh c) (Str.ofString ", ")) ∧ (told sh c).length ≤ 1000 ∧ c * 2 ^ sh < 2 ^ 32 ∧ NM (fls sh n) c = told sh c := by
  unfold told
  refine ⟨?_, told_len hn h hc, shift_lt hn h hc, ?_⟩
  · rw [told_split hn h hc]; exact named_ok hn h
  · rw [fls_pn]; exact NM_eq hn h hc
end Mine

-- SemX
theorem Mine.gap_SemX : True ∧ True := by w_top off; walk1 <;> trivial
namespace Mine
open PySem PySem.W PySem.Calls PyProof.Rows
theorem told_tab {bs : List Bool} {n sh c : Nat} (hz : Sz bs.length n) (h : sh < 28) (hc : c < 2 ^ n) : tout (tieF (pcB bs) (fls sh n) (Txt.split (told sh c) (Str.ofString ", "))) (fls sh n).length ((fls sh n).length - 1) = tabC bs n c := told_tab' hz h hc
theorem told_ok {n sh c : Nat} (hn : n ≤ 5) (h : sh < 28) (hc : c < 2 ^ n) : okS (Txt.split (told sh c) (Str.ofString ", ")) ∧ (told sh c).length ≤ 1000 ∧ c * 2 ^ sh < 2 ^ 32 ∧ NM (fls sh n) c = told sh c := told_ok' hn h hc
theorem odd_xor {bs : List Bool} {n c : Nat} (hz : Sz bs.length n) (hc : c < 2 ^ n) (he : evenC n c = true) : oddN bs n c = oddN bs n 0 ^^^ c := odd_xor' hz hc he
theorem rows_join {bs : List Bool} {n c : Nat} (hz : Sz bs.length n) : (tabC bs n c).map joinC = rowsC bs n c := rows_join' (by rcases sz3 hz with h | h <;> omega)
theorem odd_back {ds : List Bool} {n : Nat} (hz : Sz ds.length n) : oddN ds n (oddN ds n 0) = 0 := odd_back' hz
theorem sem_same {bs ds : List Bool} {n : Nat} (hz : Sz bs.length n) (hds : ds.length = bs.length) (ht : threes bs (n - 2) = threes ds (n - 2)) :
    metL bs ds n (2 ^ n) = [oddN bs n 0 ^^^ oddN ds n 0] ∧ evenL bs n (2 ^ n) = [rowsS (turned ds n (oddN ds n 0 : Int) (bs.length : Int)) n] := sem_same' hz hds ht
theorem sem_diff {bs ds : List Bool} {n : Nat} (hz : Sz bs.length n) (hds : ds.length = bs.length) (ht : ¬ threes bs (n - 2) = threes ds (n - 2)) :
    metL bs ds n (2 ^ n) = [] ∧ evenL bs n (2 ^ n) ≠ [rowsS (turned ds n (oddN ds n 0 : Int) (bs.length : Int)) n] := sem_diff' hz hds ht
end Mine

-- LawSt2
theorem Mine.gap_LawSt2 : True ∧ True := by w_top off; walk1 <;> trivial
namespace Mine
open PySem PySem.W PySem.Calls PyProof.Rows
/-- the law's locals ahead of its long loop -/
def mE (begun : Int) (tb0 twm tn tp tx t2 : Tok) (lev lme ldu lai lgo lo lg lf : Addr) (vz : Value) (bs ds : List Bool) (n wm : Nat) (m : Str → Option Value) (y : Str) : Option Value :=
  if y = Str.ofString "even" then some (.ref lev) else if y = Str.ofString "met" then some (.ref lme) else if y = Str.ofString "begun" then some (.int begun tb0) else if y = Str.ofString "due" then some (.ref ldu) else if y = Str.ofString "wanted" then some (.int (wm : Int) twm) else if y = Str.ofString "aim" then some (.ref lai) else if y = Str.ofString "goal" then some (.ref lgo) else
  if y = Str.ofString "others" then some (.ref lo) else if y = Str.ofString "groups" then some (.ref lg) else if y = Str.ofString "flags" then some (.ref lf) else if y = Str.ofString "sizes" then some vz else if y = Str.ofString "second" then some (.str (txt ds) t2) else if y = Str.ofString "text" then some (.str (txt bs) tx) else if y = Str.ofString "pairs" then some (.int (bs.length : Int) tp) else if y = Str.ofString "people" then some (.int (n : Int) tn) else m y
/-- what stands all along the long loop -/
structure LawV (w : World) (L : Addr) (n : Nat) (bs ds : List Bool) (sh wm : Nat) (tsh : Tok) (lev lme ldu lai lgo lo lg lf : Addr) (co2 : Obj) (gs os fs ais dus : List Value) (rs0 : List Rw) (base : List (Addr × Obj)) : Prop where
  hz : Sz bs.length n
  hds : ds.length = bs.length
  hsh : sh < 28
  hwm : wm = oddN ds n 0
  cd2 : co2.data = .cell (some (.int (sh : Int) tsh))
  hfs : StrsAre fs (fls sh n)
  hgs : GsOk gs bs n
  hos : GsOk os ds n
  hai : StrsAre ais (rowsS ds n)
  hdu : StrsAre dus (rowsS (turned ds n (wm : Int) (bs.length : Int)) n)
  hr0 : RowsOk w rs0
  hc0 : rs0.map Rw.cont = tabC ds n 0
  mdu : ∃ k, (ldu, listOf dus.toArray k) ∈ base
  mai : ∃ k, (lai, listOf ais.toArray k) ∈ base
  mgo : ∃ k, (lgo, listOf (rs0.map (fun r : Rw => Value.ref r.x)).toArray k) ∈ base
  mo : ∃ k, (lo, listOf os.toArray k) ∈ base
  mg : ∃ k, (lg, listOf gs.toArray k) ∈ base
  mf : ∃ k, (lf, listOf fs.toArray k) ∈ base
  m2 : (L + 2, co2) ∈ base
  mr : ∀ q ∈ rowsLed rs0, q ∈ base
  lo3 : ∀ p ∈ base, p.1 ≠ 70 ∧ p.1 ≠ 77 ∧ p.1 ≠ L + 3 ∧ p.1 < lme
  lme3 : L + 3 < lme
  lml : lme < lev
end Mine

-- LawSt3
theorem Mine.gap_LawSt3 : True ∧ True := by w_top off; walk1 <;> trivial
namespace Mine
open PySem PySem.W PySem.Calls PyProof.Rows
/-- the values that stand all along the long loop -/
structure LV where
  L : Addr
  n : Nat
  sh : Nat
  wm : Nat
  bs : List Bool
  ds : List Bool
  tsh : Tok
  twm : Tok
  tn : Tok
  tp : Tok
  tx : Tok
  t2 : Tok
  lev : Addr
  lme : Addr
  ldu : Addr
  lai : Addr
  lgo : Addr
  lo : Addr
  lg : Addr
  lf : Addr
  vz : Value
  co2 : Obj
  gs : List Value
  os : List Value
  fs : List Value
  ais : List Value
  dus : List Value
  rs0 : List Rw
  base : List (Addr × Obj)
  m : Str → Option Value
abbrev LV.ok (v : LV) (w : World) : Prop := LawV w v.L v.n v.bs v.ds v.sh v.wm v.tsh v.lev v.lme v.ldu v.lai v.lgo v.lo v.lg v.lf v.co2 v.gs v.os v.fs v.ais v.dus v.rs0 v.base
abbrev LV.mE (v : LV) (b : Int) (t : Tok) : Str → Option Value := Mine.mE b t v.twm v.tn v.tp v.tx v.t2 v.lev v.lme v.ldu v.lai v.lgo v.lo v.lg v.lf v.vz v.bs v.ds v.n v.wm v.m
/-- a list of texts that the law has kept: its address, its items, its count, what they say -/
abbrev El := Addr × List Value × Nat × List Str
def elLed (el : List El) : List (Addr × Obj) := el.map fun e => (e.1, listOf e.2.1.toArray e.2.2.1)
theorem el_all {el : List El} {P : Addr → Prop} (h : ∀ e ∈ el, P e.1) : ∀ p ∈ elLed el, P p.1 := fun p hp => by
  obtain ⟨e, he, rfl⟩ := List.mem_map.mp hp
  exact h e he
theorem el_snoc {el : List El} {e : El} {A : List (Addr × Obj)} (a : Sub (elLed el) A) (b : (e.1, listOf e.2.1.toArray e.2.2.1) ∈ A) : Sub (elLed (el ++ [e])) A := by
  unfold elLed
  rw [List.map_append]
  exact Sub.both a (Sub.cons b Sub.nil)
structure ElOk (v : LV) (el : List El) (ns : List (List Str)) : Prop where
  eqn : el.map (·.2.2.2) = ns
  sts : ∀ e ∈ el, StrsAre e.2.1 e.2.2.2
  above : ∀ e ∈ el, v.lev < e.1
def lvars : List Str := [Str.ofString "told", Str.ofString "rows", Str.ofString "odd"]
abbrev elRefs (el : List El) : List Value := el.map fun e => Value.ref e.1
/-- the ledger in the long loop -/
def ledE (v : LV) (mes : List Value) (kme : Nat) (el : List El) (kev : Nat) (oc : Obj) (ps ps' : Array Value) : List (Addr × Obj) :=
  (v.lev, listOf (elRefs el).toArray kev) :: (v.lme, listOf mes.toArray kme) :: (v.L + 3, oc) :: (70, tabObj ps) :: (77, tabObj ps') :: (elLed el ++ v.base)
section
variable {v : LV} {mes : List Value} {kme : Nat} {el : List El} {kev : Nat} {oc : Obj} {ps ps' : Array Value}
theorem led_lev : (v.lev, listOf (elRefs el).toArray kev) ∈ ledE v mes kme el kev oc ps ps' := List.mem_cons_self
theorem led_lme : (v.lme, listOf mes.toArray kme) ∈ ledE v mes kme el kev oc ps ps' := List.mem_cons_of_mem _ List.mem_cons_self
theorem led_L3 : (v.L + 3, oc) ∈ ledE v mes kme el kev oc ps ps' := List.mem_cons_of_mem _ (List.mem_cons_of_mem _ List.mem_cons_self)
theorem led_70 : (70, tabObj ps) ∈ ledE v mes kme el kev oc ps ps' := List.mem_cons_of_mem _ (List.mem_cons_of_mem _ (List.mem_cons_of_mem _ List.mem_cons_self))
theorem led_77 : (77, tabObj ps') ∈ ledE v mes kme el kev oc ps ps' := List.mem_cons_of_mem _ (List.mem_cons_of_mem _ (List.mem_cons_of_mem _ (List.mem_cons_of_mem _ List.mem_cons_self)))
theorem led_el : Sub (elLed el) (ledE v mes kme el kev oc ps ps') := Sub.tail (Sub.tail (Sub.tail (Sub.tail (Sub.tail Sub.left))))
theorem led_base : Sub v.base (ledE v mes kme el kev oc ps ps') := Sub.tail (Sub.tail (Sub.tail (Sub.tail (Sub.tail (Sub.right (Sub.self _))))))
theorem led_in {A : List (Addr × Obj)} (a : (v.lev, listOf (elRefs el).toArray kev) ∈ A) (b : (v.lme, listOf mes.toArray kme) ∈ A) (c : (v.L + 3, oc) ∈ A) (d : (70, tabObj ps) ∈ A) (e : (77, tabObj ps') ∈ A) (f : Sub (elLed el ++ v.base) A) : Sub (ledE v mes kme el kev oc ps ps') A := Sub.cons a (Sub.cons b (Sub.cons c (Sub.cons d (Sub.cons e f))))
theorem led_off {I : Addr} (h : ∀ p ∈ ledE v mes kme el kev oc ps ps', p.1 ≠ I) {mes2 : List Value} {k2 kev2 : Nat} {oc2 : Obj} {ps2 ps3 : Array Value} : ∀ p ∈ ledE v mes2 k2 el kev2 oc2 ps2 ps3, p.1 ≠ I := all_fst (P := fun a => a ≠ I) (A := ledE v mes kme el kev oc ps ps') rfl h
end
def begI (v : LV) (i : Nat) : Int := if i = 0 then 0 else (oddN v.bs v.n 0 : Int)
/-- between the turns of the long loop -/
def JE (v : LV) (i : Nat) (m₁ : Str → Option Value) (nw : List (Addr × Obj)) (g : Array GenState) : Prop :=
  AllBare g ∧ ∃ (t : Tok) (mes : List Value) (kme : Nat) (el : List El) (kev : Nat) (oc : Obj) (ps ps' : Array Value),
    (∀ z, lvars.contains z = false → m₁ z = v.mE (begI v i) t z) ∧ nw = ledE v mes kme el kev oc ps ps' ∧ (∃ x, oc.data = .cell x) ∧ TriplesOk ps.toList ∧ TriplesOk ps'.toList ∧
    IntsAre mes ((metL v.bs v.ds v.n i).map (fun (c : Nat) => (c : Int))) ∧ ElOk v el (evenL v.bs v.n i)
/-- from the k-th row on of what the long loop does -/
abbrev TurnAt (w : World) (k : Nat) (L : Addr) (Q : Flow → Shared → Prop) (E : Value → Shared → Prop) (s : Shared) : Prop :=
  ∀ (oc pm cd doc : Value) (od : Option Addr) (osl : Array (Option Value)) (name : Str) (params : Arguments) (scope : Scope) (before rest bb brest orelse : List Stmt) (tgt it : PySem.Expr) (pos : Pos), before.length = 20 → bb.length = k →
    (hd.heap_1 w.params).lookup 176 = some ⟨oc, od, .func (Calls.docDef name params (before ++ (.For tgt it (bb ++ brest) orelse pos) :: rest) scope pm cd doc), osl⟩ →
    wpAny (model PySem.Challenge.rw_zd0009_01.row.prog w) (callerA.deeper (envOfC name scope L 176 cd)) (execs brest (envOfC name scope L 176 cd)) Q E s
def TurnEnd (H : Heap) (v : LV) (s : Shared) (I : Addr) (oI : Obj) (i : Nat) (Q : Flow → Shared → Prop) : Prop :=
  ∀ h' tk' g' m' nw, Fr H v.L h' m' → News H v.L h' ((I, oI) :: nw) → (∀ p ∈ nw, p.1 ≠ I) → JE v (i + 1) m' nw g' → Q .next { s with heap := h', toks := tk', gens := g' }
/-- from «for chosen ..» on -/
def PartE (w : World) : Prop :=
  ∀ (loose : List Str) (mean : ExcName → Option Value) (mg mb : Str → Option Value) (H : Heap) (v : LV) (s : Shared) (h : Heap) (tk : Nat) (g : Array GenState) (Q : Flow → Shared → Prop) (tb0 : Tok) (co1 : Obj) (kme kev : Nat) (ps ps' : Array Value),
    LawCtx w loose mean mg mb H v.L → AllBare g → v.ok w → (∃ x, co1.data = .cell x) → TriplesOk ps.toList → TriplesOk ps'.toList →
    Fr H v.L h (v.mE 0 tb0) → News H v.L h (ledE v [] kme [] kev co1 ps ps') → LawEnd H v.L s Q → LawAt w 20 v.L Q noE { s with heap := h, toks := tk, gens := g }
/-- from «rows = ..» on, in a turn -/
def PartT2 (w : World) : Prop :=
  ∀ (loose : List Str) (mean : ExcName → Option Value) (mg mb : Str → Option Value) (H : Heap) (v : LV) (s : Shared) (h : Heap) (tk : Nat) (g : Array GenState) (Q : Flow → Shared → Prop) (E : Value → Shared → Prop) (i : Nat) (I : Addr) (oI : Obj) (m₁ : Str → Option Value) (tt t ti : Tok) (mes : List Value) (kme : Nat) (el : List El) (kev : Nat) (oc : Obj) (ps ps' : Array Value),
    LawCtx w loose mean mg mb H v.L → v.ok w → AllBare g → i < 2 ^ v.n → evenC v.n i = true → oc.data = .cell (some (.int (i : Int) ti)) → TriplesOk ps.toList → TriplesOk ps'.toList →
    IntsAre mes ((metL v.bs v.ds v.n i).map (fun (c : Nat) => (c : Int))) → ElOk v el (evenL v.bs v.n i) → (∀ z, lvars.contains z = false → m₁ z = v.mE (begI v i) t z) →
    Fr H v.L h (fun y => if y = Str.ofString "told" then some (.str (told v.sh i) tt) else m₁ y) → News H v.L h ((I, oI) :: ledE v mes kme el kev oc ps ps') → (∀ p ∈ ledE v mes kme el kev oc ps ps', p.1 ≠ I) → v.lev < I →
    TurnEnd H v s I oI i Q → TurnAt w 3 v.L Q E { s with heap := h, toks := tk, gens := g }
/-- from «if odd == wanted ..» on, in a turn -/
def PartT3 (w : World) : Prop :=
  ∀ (loose : List Str) (mean : ExcName → Option Value) (mg mb : Str → Option Value) (H : Heap) (v : LV) (s : Shared) (h : Heap) (tk : Nat) (g : Array GenState) (Q : Flow → Shared → Prop) (E : Value → Shared → Prop) (i : Nat) (I : Addr) (oI : Obj) (m₁ : Str → Option Value) (tt t ti to : Tok) (mes : List Value) (kme : Nat) (el : List El) (kev : Nat) (oc : Obj) (ps ps' : Array Value) (lr : Addr) (rs : List Rw) (kr : Nat),
    LawCtx w loose mean mg mb H v.L → v.ok w → AllBare g → i < 2 ^ v.n → evenC v.n i = true → oc.data = .cell (some (.int (i : Int) ti)) → TriplesOk ps.toList → TriplesOk ps'.toList →
    IntsAre mes ((metL v.bs v.ds v.n i).map (fun (c : Nat) => (c : Int))) → ElOk v el (evenL v.bs v.n i) → (∀ z, lvars.contains z = false → m₁ z = v.mE (begI v (i + 1)) t z) → RowsOk w rs → rs.map Rw.cont = tabC v.bs v.n i →
    Fr H v.L h (fun y => if y = Str.ofString "odd" then some (.int (oddN v.bs v.n i : Int) to) else if y = Str.ofString "rows" then some (.ref lr) else if y = Str.ofString "told" then some (.str (told v.sh i) tt) else m₁ y) →
    News H v.L h ((lr, listOf (rs.map (fun r : Rw => Value.ref r.x)).toArray kr) :: (rowsLed rs ++ ((I, oI) :: ledE v mes kme el kev oc ps ps'))) → (∀ p ∈ ledE v mes kme el kev oc ps ps', p.1 ≠ I) → v.lev < I → (∀ p ∈ rowsLed rs, p.1 ≠ 70 ∧ p.1 ≠ 77 ∧ p.1 ≠ v.lme ∧ p.1 ≠ v.lev) → v.lev < lr →
    TurnEnd H v s I oI i Q → TurnAt w 7 v.L Q E { s with heap := h, toks := tk, gens := g }
/-- behind the long loop -/
def PartF (w : World) : Prop :=
  ∀ (loose : List Str) (mean : ExcName → Option Value) (mg mb : Str → Option Value) (H : Heap) (v : LV) (s : Shared) (h : Heap) (tk : Nat) (g : Array GenState) (Q : Flow → Shared → Prop) (E : Value → Shared → Prop) (m₁ : Str → Option Value) (nw : List (Addr × Obj)),
    LawCtx w loose mean mg mb H v.L → v.ok w → JE v (2 ^ v.n) m₁ nw g → Fr H v.L h m₁ → News H v.L h nw → LawEnd H v.L s Q → LawAt w 21 v.L Q E { s with heap := h, toks := tk, gens := g }
end Mine

-- LawD
theorem Mine.gap_LawD : True ∧ True := by w_top off; walk1 <;> trivial
namespace Mine
open PySem PySem.W PySem.Calls PyProof.Rows
set_option maxRecDepth 100000

local macro_rules | `(tactic| walk_at "call ref") => `(tactic| ((with_reducible show wpAny _ _ (call (Value.ref _) _ _) _ _ _); refine Halt.of ?_))
local macro_rules | `(tactic| walk_at "execs cons") => `(tactic| ((with_reducible show wpAny _ _ (execs (Stmt.For _ _ _ _ _ :: _) _) _ _ _); refine Halt.of ?_))
theorem kf_start13 (w : World) : PySem.Challenge.rw_zd0009_01 = PySem.Challenge.rw_zd0009_01 → findIn (hd.heap_1 w.params) (.ref 107) "__getattr__" = some none := by k_fill; intro _; k_is
theorem tri3 : ∀ one, one < 3 → one ≤ tri one ∧ tri one ≤ 3 := by decide +kernel
theorem tri5 : ∀ one, one < 5 → one ≤ tri one ∧ tri one ≤ 10 := by decide +kernel
theorem gs_ok {gs : List Value} {bs : List Bool} {n : Nat} (hz : Sz bs.length n) (sh : Int) (h : GsOk gs bs n) : ∀ one, 1 ≤ one → one < (fls sh n).length → (pcB bs one).length = one ∧ ∃ t, gs[one - 1]? = some (.str (txt (pcB bs one)) t) := by
  rw [fls_len]
  intro one h1 h2
  obtain ⟨t, ht⟩ := h (one - 1) (Nat.sub_lt_sub_right h1 h2)
  have e : one - 1 + 1 = one := Nat.sub_add_cancel h1
  rw [e] at ht
  refine ⟨?_, t, ht⟩
  unfold pcB
  rw [List.length_take, List.length_drop]
  have f1 : one ≤ tri one ∧ tri one ≤ bs.length := by
    rcases hz with ⟨hh, rfl⟩ | ⟨hh, rfl⟩ <;> rw [hh]
    · exact tri3 one h2
    · exact tri5 one h2
  rw [Nat.sub_sub_self f1.2]
  exact Nat.min_eq_left f1.1
theorem addTo_len (c : List (List (Str × Str))) (k : Nat) (p : Str × Str) : (addTo c k p).length = c.length := by unfold addTo; rw [List.length_modify]
theorem addTo_le {c : List (List (Str × Str))} {k B : Nat} {p : Str × Str} (h : ∀ x ∈ c, x.length ≤ B ∧ ∀ q ∈ x, q.1.length ≤ 1 ∧ q.2.length ≤ 1) (hp : p.1.length ≤ 1 ∧ p.2.length ≤ 1) : ∀ x ∈ addTo c k p, x.length ≤ B + 1 ∧ ∀ q ∈ x, q.1.length ≤ 1 ∧ q.2.length ≤ 1 := by
  intro x hx
  unfold addTo at hx
  obtain ⟨i, hi⟩ := List.getElem?_of_mem hx
  rw [List.getElem?_modify] at hi
  cases e : c[i]? with
  | none => rw [e] at hi; simp at hi
  | some y =>
    rw [e] at hi
    have hy := h y (List.mem_of_getElem? e)
    by_cases hk : k = i
    · simp only [hk, if_true] at hi
      have hi' : some (y ++ [p]) = some x := hi
      cases hi'
      refine ⟨by rw [List.length_append, List.length_singleton]; omega, fun q hq => ?_⟩
      rcases List.mem_append.mp hq with hq | hq
      · exact hy.2 q hq
      · rw [List.mem_singleton.mp hq]; exact hp
    · simp only [hk, if_false] at hi
      have hi' : some y = some x := hi
      cases hi'
      exact ⟨by omega, hy.2⟩
theorem tin_le (tie : Nat → Nat → Bool) (one : Nat) {c : List (List (Str × Str))} {B : Nat} (h : ∀ x ∈ c, x.length ≤ B ∧ ∀ q ∈ x, q.1.length ≤ 1 ∧ q.2.length ≤ 1) : ∀ k, ∀ x ∈ tin tie one c k, x.length ≤ B + 2 * k ∧ ∀ q ∈ x, q.1.length ≤ 1 ∧ q.2.length ≤ 1
  | 0 => h
  | k + 1 => by
    rw [tin_s]
    unfold tstep
    have ih := tin_le tie one h k
    have l0 : Str.empty.length ≤ 1 := by decide
    have l1 : ∀ j, (ltr j).length ≤ 1 := fun j => by unfold ltr; exact Nat.le_refl 1
    split
    · have z := addTo_le (k := k) (p := (ltr one, Str.empty)) (addTo_le (k := one) (p := (Str.empty, ltr k)) ih ⟨l0, l1 _⟩) ⟨l1 _, l0⟩
      exact fun x hx => ⟨by have := (z x hx).1; omega, (z x hx).2⟩
    · exact fun x hx => ⟨by have := (ih x hx).1; omega, (ih x hx).2⟩
theorem tout_le (tie : Nat → Nat → Bool) (n : Nat) : ∀ i, i ≤ 4 → ∀ x ∈ tout tie n i, x.length ≤ 10 * i ∧ ∀ q ∈ x, q.1.length ≤ 1 ∧ q.2.length ≤ 1
  | 0, _ => fun x hx => by
    have : x = [] := (List.mem_replicate.mp (show x ∈ List.replicate n [] from hx)).2
    subst this
    exact ⟨Nat.le_refl _, fun _ h => nomatch h⟩
  | i + 1, hi => by
    rw [tout_s]
    have z := tin_le tie (1 + i) (tout_le tie n i (by omega)) (1 + i)
    exact fun x hx => ⟨by have := (z x hx).1; omega, (z x hx).2⟩
theorem rows_small {bs : List Bool} {n c : Nat} {rs : List Rw} (hn : n ≤ 5) (h : rs.map Rw.cont = tabC bs n c) : ∀ r ∈ rs, r.prs.length ≤ 100 ∧ ∀ q ∈ r.prs, q.2.1.length ≤ 1000 ∧ q.2.2.2.1.length ≤ 1000 := by
  intro r hr
  have hm : r.cont ∈ tabC bs n c := h ▸ List.mem_map_of_mem hr
  have z := tout_le (sw bs c) n (n - 1) (by omega) _ hm
  refine ⟨by have := z.1; unfold Rw.cont at this; rw [List.length_map] at this; omega, fun q hq => ?_⟩
  have := z.2 (q.2.1, q.2.2.2.1) (List.mem_map.mpr ⟨q, hq, rfl⟩)
  exact ⟨Nat.le_trans this.1 (by decide), Nat.le_trans this.2 (by decide)⟩
theorem tin_len (tie : Nat → Nat → Bool) (one : Nat) (c : List (List (Str × Str))) : ∀ k, (tin tie one c k).length = c.length
  | 0 => rfl
  | k + 1 => by rw [tin_s]; unfold tstep; split <;> simp only [addTo_len, tin_len tie one c k]
theorem tout_len (tie : Nat → Nat → Bool) (n : Nat) : ∀ i, (tout tie n i).length = n
  | 0 => List.length_replicate
  | i + 1 => by rw [tout_s, tin_len, tout_len tie n i]
theorem rows_len {bs : List Bool} {n c : Nat} {rs : List Rw} (h : rs.map Rw.cont = tabC bs n c) : rs.length = n := by
  have := congrArg List.length h
  rw [List.length_map] at this
  rw [this]; exact tout_len _ _ _
theorem ne_addr {h₀ h : Heap} {L : Addr} {news : List (Addr × Obj)} (N : News h₀ L h news) {p q : Addr × Obj} (hp : p ∈ news) (hq : q ∈ news) (h : p.2.data ≠ q.2.data) : p.1 ≠ q.1 := fun e => by
  have a := (N p hp).1
  have b := (N q hq).1
  rw [e, b] at a
  exact h (by rw [Option.some.inj a])
theorem led_kind {w : World} {rs : List Rw} (K : RowsOk w rs) : ∀ p ∈ rowsLed rs, (∀ v, p.2.data ≠ .cell v) ∧ ∀ vs, p.2.data ≠ .fields vs := by
  intro p hp
  obtain ⟨r, hr, hp⟩ := mem_rowsLed.mp hp
  rcases List.mem_cons.mp hp with rfl | hp
  · exact ⟨fun _ => by simp, fun _ => by simp⟩
  · rcases List.mem_cons.mp hp with rfl | hp
    · have h1 := (K.od r hr).1
      constructor
      · intro v e
        unfold lookIn at h1
        simp only at e
        rw [e] at h1
        cases h1
      · intro v e
        unfold lookIn at h1
        simp only at e
        rw [e] at h1
        cases h1
    · obtain ⟨q, _, rfl⟩ := List.mem_map.mp hp
      exact ⟨fun _ => by simp, fun _ => by simp⟩
theorem list_kind {us : List Value} {k : Nat} : (∀ v, (listOf us.toArray k).data ≠ .cell v) ∧ ∀ vs, (listOf us.toArray k).data ≠ .fields vs := ⟨fun _ => by simp, fun _ => by simp⟩
set_option maxHeartbeats 4000000 in
theorem law_d (w : World) (he' : PartE w) : PartD w := by
  intro loose mean mg mb H L s h tk g Q E m n bs tn tp tx t2 tsh cc pl shi kg ko kf lg lo lf vz co1 co2 gs os fs ctx hbare hz hcc hcc' hpl hpl' hsh hsh' hlg hlo hlf cd1 cd2 hfs hgs hos F N hret
  intro oc pm cd doc od osl name params scope before rest hbl ho
  generalize hw : before ++ rest = whole at ho
  cases ho
  have hr := List.drop_left' (l₂ := rest) hbl
  rw [hw] at hr
  clear hw hbl
  simp only [List.drop_succ_cons, List.drop_zero] at hr
  subst hr
  have kMark : KstMark := kstMark
  have B' := below_caller H
  have X' := ctx.X
  have T' := ctx.T
  have hn5 : n = 3 ∨ n = 5 := by rcases hz with ⟨_, h⟩ | ⟨_, h⟩ <;> simp [h]
  have hn1 : 1 ≤ n ∧ n ≤ 5 := by omega
  obtain ⟨sh, rfl⟩ := Int.eq_ofNat_of_zero_le hsh
  have hsh2 : sh < 28 := by omega
  have hds : (turned bs n cc pl).length = bs.length := turned_len hz cc pl
  have hzd : Sz (turned bs n cc pl).length n := by rw [hds]; exact hz
  generalize turned bs n cc pl = ds at *
  have hp0 : 0 < 2 ^ n := Nat.two_pow_pos n
  k_steps
  unfold Halt
  refine pretty_spec w noProg loose mean mg mb 0 _ _ (by decide) _ _ _ _ _ _ _ _ _ _ _ _ _ _ _ _ _ B' F X' N T' rfl (by decide) (by decide) ?_
  rintro r tl h1 tk1 F1 N1 ⟨rfl, t1, rfl⟩
  simp only [List.nil_append] at N1
  dsimp only
  k_steps
  unfold Halt
  have hto := told_ok (n := n) (sh := sh) (c := 0) hn1.2 hsh2 hp0
  have etold : PF 0 = told sh 0 := by unfold told; rw [Nat.zero_mul]
  rw [etold]
  refine tab_spec w noProg loose mean mg mb os fs lo lf ko kf (fls sh n) (Txt.split (told sh 0) (Str.ofString ", ")) (told sh 0) _ (pcB ds) hfs (gs_ok hzd _ hos) rfl hto.2.1 hto.1 (fls_ok hsh2 hn1.2).1 (by rw [fls_len]; omega) _ List.mem_cons_self (List.mem_cons_of_mem _ (List.mem_cons_of_mem _ List.mem_cons_self)) _ _ _ _ _ _ _ _ _ _ _ _ _ _ _ _ _ B' F1 X' N1 T' hbare rfl (by decide) (by decide) ?_
  rintro _ _ h2 tk2 g2 hb2 F2 N2 ⟨lgo, rs, kgo, rfl, rfl, hrok, hcont, lgolt, hrlt⟩
  rw [told_tab hzd hsh2 hp0] at hcont
  k_steps
  unfold Halt
  (rename News _ _ _ _ => N3)
  (rename Fr _ _ _ _ => F3)
  refine rows_spec w noProg loose mean mg mb ds n _ _ _ hzd _ _ _ _ _ _ _ _ _ _ _ _ _ _ _ _ _ B' F3 X' N3 T' rfl (by decide) (by decide) ?_
  rintro _ _ h4 tk4 F4 N4 ⟨lai, ais, kai, rfl, rfl, hai⟩
  simp only [List.cons_append, List.nil_append] at N4
  k_steps
  unfold Halt
  (rename News _ _ _ _ => N5)
  (rename Fr _ _ _ _ => F5)
  have hlen0 := rows_len hcont
  have kind : ∀ p ∈ (lai, listOf ais.toArray kai) :: (lgo, listOf (rs.map (fun r : Rw => Value.ref r.x)).toArray kgo) :: (rowsLed rs ++ [(lo, listOf os.toArray ko), (lg, listOf gs.toArray kg), (lf, listOf fs.toArray kf)]), (∀ v, p.2.data ≠ .cell v) ∧ ∀ vs, p.2.data ≠ .fields vs :=
    all_cons list_kind (all_cons list_kind (all_app (led_kind hrok) (all_cons list_kind (all_cons list_kind (all_cons list_kind (List.forall_mem_nil _))))))
  replace N5 := sub_news (news' := (70, tabObj #[]) :: (L + 3, co1) :: (L + 2, co2) :: (77, tabObj #[]) :: (lai, listOf ais.toArray kai) :: (lgo, listOf (rs.map (fun r : Rw => Value.ref r.x)).toArray kgo) :: (rowsLed rs ++ [(lo, listOf os.toArray ko), (lg, listOf gs.toArray kg), (lf, listOf fs.toArray kf)])) N5 (Sub.cons (mid2 M5) (Sub.cons (mid2 M3) (Sub.cons (mid2 M4) (Sub.cons (mid2 M6) (Sub.cons M0 (Sub.cons M1 (Sub.tail (Sub.tail (Sub.app (Sub.pick [0, 1, 2] 7 rfl)))))))))) 
  have mai : (lai, listOf ais.toArray kai) ∈ (lai, listOf ais.toArray kai) :: (lgo, listOf (rs.map (fun r : Rw => Value.ref r.x)).toArray kgo) :: (rowsLed rs ++ [(lo, listOf os.toArray ko), (lg, listOf gs.toArray kg), (lf, listOf fs.toArray kf)]) := List.mem_cons_self
  have mgo : (lgo, listOf (rs.map (fun r : Rw => Value.ref r.x)).toArray kgo) ∈ (lai, listOf ais.toArray kai) :: (lgo, listOf (rs.map (fun r : Rw => Value.ref r.x)).toArray kgo) :: (rowsLed rs ++ [(lo, listOf os.toArray ko), (lg, listOf gs.toArray kg), (lf, listOf fs.toArray kf)]) := List.mem_cons_of_mem _ List.mem_cons_self
  have mo : (lo, listOf os.toArray ko) ∈ (lai, listOf ais.toArray kai) :: (lgo, listOf (rs.map (fun r : Rw => Value.ref r.x)).toArray kgo) :: (rowsLed rs ++ [(lo, listOf os.toArray ko), (lg, listOf gs.toArray kg), (lf, listOf fs.toArray kf)]) := List.mem_cons_of_mem _ (List.mem_cons_of_mem _ (List.mem_append_right _ List.mem_cons_self))
  have mg : (lg, listOf gs.toArray kg) ∈ (lai, listOf ais.toArray kai) :: (lgo, listOf (rs.map (fun r : Rw => Value.ref r.x)).toArray kgo) :: (rowsLed rs ++ [(lo, listOf os.toArray ko), (lg, listOf gs.toArray kg), (lf, listOf fs.toArray kf)]) := List.mem_cons_of_mem _ (List.mem_cons_of_mem _ (List.mem_append_right _ (List.mem_cons_of_mem _ List.mem_cons_self)))
  have mf : (lf, listOf fs.toArray kf) ∈ (lai, listOf ais.toArray kai) :: (lgo, listOf (rs.map (fun r : Rw => Value.ref r.x)).toArray kgo) :: (rowsLed rs ++ [(lo, listOf os.toArray ko), (lg, listOf gs.toArray kg), (lf, listOf fs.toArray kf)]) := List.mem_cons_of_mem _ (List.mem_cons_of_mem _ (List.mem_append_right _ (List.mem_cons_of_mem _ (List.mem_cons_of_mem _ List.mem_cons_self))))
  have mr : Sub (rowsLed rs) ((lai, listOf ais.toArray kai) :: (lgo, listOf (rs.map (fun r : Rw => Value.ref r.x)).toArray kgo) :: (rowsLed rs ++ [(lo, listOf os.toArray ko), (lg, listOf gs.toArray kg), (lf, listOf fs.toArray kf)])) := Sub.tail (Sub.tail Sub.left)
  generalize (lai, listOf ais.toArray kai) :: (lgo, listOf (rs.map (fun r : Rw => Value.ref r.x)).toArray kgo) :: (rowsLed rs ++ [(lo, listOf os.toArray ko), (lg, listOf gs.toArray kg), (lf, listOf fs.toArray kf)]) = base0 at kind N5 mai mgo mo mg mf mr
  have n70 : ∀ p ∈ base0, p.1 ≠ 70 := fun p hp => ne_addr N5 (List.mem_cons_of_mem _ (List.mem_cons_of_mem _ (List.mem_cons_of_mem _ (List.mem_cons_of_mem _ hp)))) (q := (70, tabObj #[])) List.mem_cons_self ((kind p hp).2 _)
  have n77 : ∀ p ∈ base0, p.1 ≠ 77 := fun p hp => ne_addr N5 (List.mem_cons_of_mem _ (List.mem_cons_of_mem _ (List.mem_cons_of_mem _ (List.mem_cons_of_mem _ hp)))) (q := (77, tabObj #[])) M3 ((kind p hp).2 _)
  have n3 : ∀ p ∈ base0, p.1 ≠ L + 3 := fun p hp => ne_addr N5 (List.mem_cons_of_mem _ (List.mem_cons_of_mem _ (List.mem_cons_of_mem _ (List.mem_cons_of_mem _ hp)))) (q := (L + 3, co1)) M1 (by rw [cd1]; exact (kind p hp).1 _)
  have l70 := ctx.l70
  have l77 := ctx.l77
  clear kind
  refine odd_spec w noProg loose mean _ mb lgo rs kgo #[] ((L + 3, co1) :: (L + 2, co2) :: (77, tabObj #[]) :: base0) trivial (U3 mgo) (fun q hq => U3 (mr q hq)) ?_ hrok (rows_small hn1.2 hcont) (by omega) _ _ _ _ _ _ _ _ _ _ _ _ _ _ _ _ _ B' F5 X' N5 T' hb2 rfl (by decide) (by decide) ?_
  · exact List.forall_mem_cons.mpr ⟨Nat.ne_of_gt (Nat.lt_of_lt_of_le l70 (Nat.le_add_right _ _)), List.forall_mem_cons.mpr ⟨Nat.ne_of_gt (Nat.lt_of_lt_of_le l70 (Nat.le_add_right _ _)), List.forall_mem_cons.mpr ⟨by decide, n70⟩⟩⟩
  rintro _ _ h6 tk6 g6 hb6 F6 N6 ⟨ps, t6, hps, rfl, rfl⟩
  rw [odd_cast, hcont, hlen0]
  rw [show (((List.range n).filter (fun i => decide (lenC ((tabC ds n 0).getD i []) % 2 = 1))).map (fun i => 2 ^ i)).sum = oddN ds n 0 from rfl]
  have hw32 : oddN ds n 0 < 32 := Nat.lt_of_lt_of_le (oddN_lt ds n 0) (by rcases hn5 with rfl | rfl <;> decide)
  have hbl10 : bs.length ≤ 10 := by rcases hz with ⟨h, _⟩ | ⟨h, _⟩ <;> omega
  generalize hwm : oddN ds n 0 = wm at *
  k_steps
  unfold Halt
  (rename News _ _ _ _ => N7)
  (rename Fr _ _ _ _ => F7)
  refine turned_spec w noProg loose mean _ mb ds n (wm : Int) (bs.length : Int) _ _ _ _ _ hzd (by omega) (by omega) (by omega) (by omega) _ _ _ _ _ _ _ _ _ _ _ _ _ _ _ _ _ B' F7 X' N7 T' rfl (by decide) (by decide) ?_
  rintro r tl h8 tk8 F8 N8 ⟨rfl, t8, rfl⟩
  simp only [List.nil_append] at N8
  dsimp only
  k_steps
  unfold Halt
  have hzt : Sz (turned ds n (wm : Int) (bs.length : Int)).length n := by rw [turned_len hzd]; exact hzd
  refine rows_spec w noProg loose mean _ mb _ n _ _ _ hzt _ _ _ _ _ _ _ _ _ _ _ _ _ _ _ _ _ B' F8 X' N8 T' rfl (by decide) (by decide) ?_
  rintro _ _ h9 tk9 F9 N9 ⟨ldu, dus, kdu, rfl, rfl, hdu⟩
  simp only [List.cons_append, List.nil_append] at N9
  have e70 : ldu ≠ 70 := ne_addr N9 List.mem_cons_self (q := (70, tabObj ps)) M1 (by simp)
  have e77 : ldu ≠ 77 := ne_addr N9 List.mem_cons_self (q := (77, tabObj #[])) M4 (by simp)
  have e3 : ldu ≠ L + 3 := ne_addr N9 List.mem_cons_self (q := (L + 3, co1)) M2 (by rw [cd1]; simp)
  k_steps
  unfold Halt
  rename_i lme hA l1 hB tkB lev hC l2 hD Fx Nx
  have b1 : ∀ q ∈ base0, q.1 < lme := kst_ltOf l1.2.2.2.2.2
  refine wpAny_mono (?_ : wpAny _ _ _ Q noE _) (fun _ _ z => z) (fun _ _ z => z.elim)
  refine' he' _ _ _ _ H ⟨L, n, sh, wm, bs, ds, tsh, _, _, _, _, _, lev, lme, ldu, lai, lgo, lo, lg, lf, vz, co2, gs, os, fs, ais, dus, rs, (ldu, listOf dus.toArray kdu) :: (L + 2, co2) :: base0, m⟩ s _ _ _ _ _ co1 0 0 ps #[] ctx hb6 ?V ⟨_, cd1⟩ hps trivial Fx (sub_news Nx ?ks) ?ke _ _ _ _ _ _ _ _ _ [_, _, _, _, _, _, _, _, _, _, _, _, _, _, _, _, _, _, _, _] _ rfl ?kho
  case kho => exact rfl
  case ke => exact hret
  case ks =>
    show Sub ((lev, listOf (#[] : Array Value) 0) :: (lme, listOf (#[] : Array Value) 0) :: (L + 3, co1) :: (70, tabObj ps) :: (77, tabObj #[]) :: (ldu, listOf dus.toArray kdu) :: (L + 2, co2) :: base0) _
    exact Sub.pick [0, 1, 4, 3, 6, 2, 5] 7 rfl
  case V => exact {
    hz := hz
    hds := hds
    hsh := hsh2
    hwm := hwm.symm
    cd2 := cd2
    hfs := hfs
    hgs := hgs
    hos := hos
    hai := hai
    hdu := hdu
    hr0 := hrok
    hc0 := hcont
    mdu := ⟨kdu, List.mem_cons_self⟩
    mai := ⟨kai, U2 mai⟩
    mgo := ⟨kgo, List.mem_cons_of_mem _ (List.mem_cons_of_mem _ mgo)⟩
    mo := ⟨ko, List.mem_cons_of_mem _ (List.mem_cons_of_mem _ mo)⟩
    mg := ⟨kg, List.mem_cons_of_mem _ (List.mem_cons_of_mem _ mg)⟩
    mf := ⟨kf, List.mem_cons_of_mem _ (List.mem_cons_of_mem _ mf)⟩
    m2 := List.mem_cons_of_mem _ List.mem_cons_self
    mr := fun q hq => List.mem_cons_of_mem _ (List.mem_cons_of_mem _ (mr q hq))
    lo3 := List.forall_mem_cons.mpr ⟨⟨e70, e77, e3, l1.1⟩, List.forall_mem_cons.mpr ⟨⟨Nat.ne_of_gt (Nat.lt_of_lt_of_le l70 (Nat.le_add_right _ _)), Nat.ne_of_gt (Nat.lt_of_lt_of_le l77 (Nat.le_add_right _ _)), Nat.ne_of_lt (Nat.lt_succ_self _), l1.2.2.2.1⟩, fun p hp => ⟨n70 p hp, n77 p hp, n3 p hp, b1 p hp⟩⟩⟩
    lme3 := l1.2.2.1
    lml := l2.1 }
end Mine

-- LawE
theorem Mine.gap_LawE : True ∧ True := by w_top off; walk1 <;> trivial
namespace Mine
open PySem PySem.W PySem.Calls PyProof.Rows
set_option maxRecDepth 100000

local macro_rules | `(tactic| walk_at "call ref") => `(tactic| ((with_reducible show wpAny _ _ (call (Value.ref _) _ _) _ _ _); refine Halt.of ?_))
local macro_rules | `(tactic| walk_at "execs cons") => `(tactic| ((with_reducible show wpAny _ _ (execs (Stmt.Assign [Expr.Name (Str.ofString "last") _] _ _ :: _) _) _ _ _); refine Halt.of ?_))
local macro_rules | `(tactic| walk_at "execs cons") => `(tactic| ((with_reducible show wpAny _ _ (execs (Stmt.Assign [Expr.Name (Str.ofString "rows") _] _ _ :: _) _) _ _ _); refine Halt.of ?_))
theorem kf_start14 (w : World) : PySem.Challenge.rw_zd0009_01 = PySem.Challenge.rw_zd0009_01 → findIn (hd.heap_1 w.params) (.ref 107) "__getattr__" = some none := by k_fill; intro _; k_is
theorem off_l {m₁ : Str → Option Value} {f : Str → Option Value} (h : ∀ z, lvars.contains z = false → m₁ z = f z) : m₁ = fun z => if lvars.contains z = true then m₁ z else f z := by
  funext z
  by_cases e : lvars.contains z = true
  · rw [if_pos e]
  · rw [if_neg e]; exact h z (by simpa using e)
theorem sum_cast (f : Nat → Nat) (l : List Nat) : (l.map (fun k => ((f k : Nat) : Int))).sum = (((l.map f).sum : Nat) : Int) := by
  induction l with
  | nil => rfl
  | cons x r ih => rw [List.map_cons, List.sum_cons, ih, List.map_cons, List.sum_cons]; simp
theorem even_of {n i : Nat} : (((List.range n).map (fun k => (((i / 2 ^ k) % 2 : Nat) : Int))).sum.fmod 2 = 1) ↔ evenC n i = false := by
  rw [sum_cast (fun k => (i / 2 ^ k) % 2), Int.fmod_eq_emod_of_nonneg _ (by decide)]
  unfold evenC
  rw [decide_eq_false_iff_not]
  omega
theorem even_zero (n : Nat) : evenC n 0 = true := by
  unfold evenC
  rw [decide_eq_true_eq]
  have : ∀ l : List Nat, (l.map (fun i => (0 / 2 ^ i) % 2)).sum = 0 := by
    intro l
    induction l with
    | nil => rfl
    | cons x r ih => rw [List.map_cons, List.sum_cons, ih]; simp
  rw [this]
theorem met_s (bs ds : List Bool) (n i : Nat) : metL bs ds n (i + 1) = metL bs ds n i ++ (if evenC n i && (oddN bs n i == oddN ds n 0 && rowsC bs n i == rowsS ds n) then [i] else []) := by
  unfold metL
  rw [List.range_succ, List.filter_append]
  congr 1
  by_cases h : (evenC n i && (oddN bs n i == oddN ds n 0 && rowsC bs n i == rowsS ds n)) = true
  · rw [if_pos h]; simp only [List.filter_cons, h, if_true, List.filter_nil]
  · rw [if_neg h]; simp only [List.filter_cons, h, List.filter_nil]; simp
theorem even_s (bs : List Bool) (n i : Nat) : evenL bs n (i + 1) = evenL bs n i ++ (if evenC n i && oddN bs n i == 0 then [rowsC bs n i] else []) := by
  unfold evenL
  rw [List.range_succ, List.filter_append, List.map_append]
  congr 1
  by_cases h : (evenC n i && oddN bs n i == 0) = true
  · rw [if_pos h]; simp only [List.filter_cons, h, if_true, List.filter_nil]; rfl
  · rw [if_neg h]; simp only [List.filter_cons, h, List.filter_nil]; simp
theorem beg_s {v : LV} {i : Nat} (h : i ≠ 0) : begI v (i + 1) = begI v i := by unfold begI; rw [if_neg h, if_neg (Nat.succ_ne_zero i)]
set_option maxHeartbeats 1000000 in
theorem law_e (w : World) (ht2 : PartT2 w) (hf' : PartF w) : PartE w := by
  intro loose mean mg mb H v s h tk g Q tb0 co1 kme kev ps ps' ctx hbare V hco1 hps hps' F N hret
  intro oc pm cd doc od osl name params scope before rest hbl ho
  have hbl0 := hbl
  have ho0 := ho
  generalize hw : before ++ rest = whole at ho
  cases ho
  have hr := List.drop_left' (l₂ := rest) hbl
  rw [hw] at hr
  clear hw hbl
  simp only [List.drop_succ_cons, List.drop_zero] at hr
  subst hr
  have kMark : KstMark := kstMark
  have B' := below_caller H
  have X' := ctx.X
  have T' := ctx.T
  have hz := V.hz
  have hn5 : v.n = 3 ∨ v.n = 5 := sz3 hz
  have hn1 : 1 ≤ v.n ∧ v.n ≤ 5 := by omega
  k_steps
  rename_i hR F2 N2 hk2
  have e32 : (2 : Int) ^ ((v.n : Int)).toNat = ((2 ^ v.n : Nat) : Int) := by simp
  have h32 : 2 ^ v.n ≤ 32 := by rcases hn5 with h | h <;> rw [h] <;> decide
  rw [e32] at hR
  refine loop_range (2 ^ v.n) rfl hR ?_ ?_ F2 N2 (fun i m₁ nw g => JE v i m₁ nw g) ⟨hbare, tb0, [], kme, [], kev, co1, ps, ps', fun z _ => rfl, rfl, hco1, hps, hps', .nil, rfl, fun _ h => (nomatch h), fun _ h => nomatch h⟩ ?_ ?_
  · have h1 : ((2 ^ v.n : Nat) : Int) ≤ 32 := by exact_mod_cast h32
    have h2 : (0 : Int) ≤ ((2 ^ v.n : Nat) : Int) := Int.natCast_nonneg _
    generalize ((2 ^ v.n : Nat) : Int) = N at *
    exact small_one (by omega) (by omega) (by omega) (by omega)
  · rw [rangeSize_nat]; congr 1
  · rintro I i oI t9 m₁ nw h3 tk3 g3 hi ⟨hb3, t3, mes, kme3, el, kev3, oc, ps3, ps3', hm3, rfl, ⟨x3, hoc⟩, hp3, hp3', hmes, hel⟩ offI ltI F3 N3
    have e0 : (0 : Int) + (i : Int) = (i : Int) := by omega
    rw [e0]
    have ltI' : v.lev < I := ltI (v.lev, listOf #[] kev) List.mem_cons_self
    have b3 := V.lme3
    have b4 := V.lml
    have hap : ∀ p ∈ (70, tabObj ps3) :: (77, tabObj ps3') :: (elLed el ++ v.base), p.1 ≠ v.L + 3 := by
      refine List.forall_mem_cons.mpr ⟨Nat.ne_of_lt (Nat.lt_of_lt_of_le ctx.l70 (Nat.le_add_right _ _)), List.forall_mem_cons.mpr ⟨Nat.ne_of_lt (Nat.lt_of_lt_of_le ctx.l77 (Nat.le_add_right _ _)), fun p hp => ?_⟩⟩
      rcases List.mem_append.mp hp with hp | hp
      · obtain ⟨e, he, rfl⟩ := List.mem_map.mp hp
        exact Nat.ne_of_gt (Nat.lt_trans (Nat.lt_trans b3 b4) (hel.above e he))
      · exact (V.lo3 p hp).2.2.1
    refine assign_cell [(I, oI), (v.lev, listOf (elRefs el).toArray kev3), (v.lme, listOf mes.toArray kme3)] _ rfl rfl rfl F3 N3 hoc ?_ hap ?_
    · have a1 : I ≠ v.L + 3 := Nat.ne_of_gt (Nat.lt_trans (Nat.lt_trans b3 b4) ltI')
      exact List.forall_mem_cons.mpr ⟨a1, List.forall_mem_cons.mpr ⟨Nat.ne_of_gt (Nat.lt_trans b3 b4), List.forall_mem_cons.mpr ⟨Nat.ne_of_gt b3, List.forall_mem_nil _⟩⟩⟩
    intro oc5 h5 hd5 F5 N5
    simp only [List.cons_append, List.nil_append] at N5
    clear hoc
    rw [off_l hm3] at F5
    have cd2 := V.cd2
    replace N5 := sub_news (news' := (I, oI) :: (v.lev, listOf (elRefs el).toArray kev3) :: (v.lme, listOf mes.toArray kme3) :: (v.L + 3, oc5) :: (v.L + 2, v.co2) :: (70, tabObj ps3) :: (77, tabObj ps3') :: (elLed el ++ v.base)) N5 (Sub.cons M0 (Sub.cons M1 (Sub.cons M2 (Sub.cons M3 (Sub.cons (U6 (List.mem_append_right _ V.m2)) (Sub.cons M4 (Sub.cons M5 (Sub.pick [] 6 rfl))))))))
    generalize hbb : elLed el ++ v.base = bb at N5
    have bi : (i : Int) < 32 := by omega
    k_steps
    unfold Halt
    (rename News _ _ _ _ => N6)
    (rename Fr _ _ _ _ => F6)
    refine comp_eval F6 (by with_unfolding_all rfl) (by decide) (by rfl) (by decide) (by rfl) ?_
    k_steps
    unfold Halt
    rename_i hR7 F7 N7 hk7
    refine ⟨_, _, _, _, fun j ys nw g' => g' = g3 ∧ nw = (I, oI) :: (v.lev, listOf (elRefs el).toArray kev3) :: (v.lme, listOf mes.toArray kme3) :: (v.L + 3, oc5) :: (v.L + 2, v.co2) :: (70, tabObj ps3) :: (77, tabObj ps3') :: bb ∧ IntsAre ys ((List.range j).map (fun k => (((i / 2 ^ k) % 2 : Nat) : Int))), F7, N7, ?_, src_range (n := v.n) rfl F7 N7 hR7 ?_ ?_, trivial, ⟨rfl, rfl, .nil⟩, CTurn.plain ?_, ?_⟩
    · rw [sizeLine_eq]; omega
    · exact small_one (by omega) (by omega) (by omega) (by omega)
    · rw [rangeSize_nat]; congr 1
    · rintro j ys nw vv I2 oI2 C oC D m₂ h4 tk4 g4 E' hj hyl ⟨rfl, rfl, hys⟩ hS ⟨tv, rfl⟩ hoC hm2 F8 N8 off4 ne4 lt4
      simp only [Int.zero_add] at hm2
      have bj : (j : Int) < 5 := by omega
      k_steps
      unfold Halt
      refine CEnd.intro F8 N8 _ (fun _ h => h) off4 trivial ⟨rfl, rfl, ?_⟩
      rw [List.range_succ, List.map_append, List.map_cons, List.map_nil, ← bit_cast]
      exact hys.append (.cons _ _ .nil)
    · rintro D h4 tk4 g4 ys nw F8 N8 off4 lt4 ⟨rfl, rfl, hys⟩ hS
      have hsh := V.hsh
      have bsh : (v.sh : Int) < 28 := by omega
      k_steps
      · unfold Halt
        (rename News _ _ _ _ => Nx)
        (rename Fr _ _ _ _ => Fx)
        have hev : evenC v.n i = false := even_of.mp (by assumption)
        have hi0 : i ≠ 0 := fun e => by rw [e, even_zero] at hev; cases hev
        subst hbb
        refine Turn.cont (ledE v mes kme3 el kev3 oc5 ps3 ps3') Fx Nx ?_ ?_ trivial ⟨hb3, t3, mes, kme3, el, kev3, oc5, ps3, ps3', ?_, rfl, ⟨_, hd5⟩, hp3, hp3', ?_, ?_⟩
        · exact Sub.pick [1, 2, 3, 4, 6, 7] 8 rfl
        · exact led_off offI
        · intro z hz
          show (if lvars.contains z = true then m₁ z else _) = _
          rw [if_neg (by rw [hz]; exact Bool.false_ne_true), beg_s hi0]
        · rw [met_s, hev]; simpa using hmes
        · rw [even_s, hev]; simpa using hel
      · unfold Halt
        (rename News _ _ _ _ => N9)
        (rename Fr _ _ _ _ => F9)
        have hev : evenC v.n i = true := by
          cases e : evenC v.n i with
          | true => rfl
          | false => exact absurd (even_of.mpr e) (by assumption)
        have etold : ((i : Int) * 2 ^ ((v.sh : Int)).toNat) = ((i * 2 ^ v.sh : Nat) : Int) := by simp
        rw [etold]
        have hto := told_ok (n := v.n) (sh := v.sh) (c := i) hn1.2 hsh hi
        refine pretty_spec w noProg loose mean mg mb (i * 2 ^ v.sh) _ _ hto.2.2.1 _ _ _ _ _ _ _ _ _ _ _ _ _ _ _ _ _ B' F9 X' N9 T' rfl (by decide) (by decide) ?_
        rintro r tl h6 tk6 F10 N10 ⟨rfl, t6, rfl⟩
        simp only [List.nil_append] at N10
        dsimp only
        rw [show PF (i * 2 ^ v.sh) = told v.sh i from rfl]
        k_steps
        unfold Halt
        (rename News _ _ _ _ => N11)
        (rename Fr _ _ _ _ => F11)
        obtain ⟨kf, mf⟩ := V.mf
        refine names_spec w noProg loose mean mg mb (fls v.sh v.n) v.lf v.fs kf (i : Int) _ _ V.hfs (by rw [fls_len]; omega) (by omega) bi (fls_ok hsh hn1.2).2 _ _ _ _ _ _ _ _ _ _ _ _ _ _ _ _ _ B' F11 X' (List.forall_mem_cons.mpr ⟨N11 (v.lf, listOf v.fs.toArray kf) (by rw [← hbb]; simp [mf]), N11⟩) T' rfl (by decide) (by decide) ?_
        rintro r tl h12 tk12 F12 N12 ⟨rfl, t12, rfl⟩
        simp only [List.nil_append] at N12
        dsimp only
        rw [hto.2.2.2]
        k_steps
        · exact absurd (by assumption : (told v.sh i != told v.sh i) = true) (by simp)
        · unfold Halt
          (rename News _ _ _ _ => Nx)
          (rename Fr _ _ _ _ => Fx)
          have offI' : ∀ p ∈ ledE v mes kme3 el kev3 oc5 ps3 ps3', p.1 ≠ I := led_off offI
          subst hbb
          refine' ht2 _ _ _ _ H v _ _ _ _ _ _ i I oI (fun z => if lvars.contains z = true then m₁ z else v.mE (begI v i) t3 z) _ t3 _ mes kme3 el kev3 oc5 ps3 ps3' ctx V hb3 hi hev hd5 hp3 hp3' hmes hel ?hm Fx (sub_news Nx ?ks) offI' ltI' ?te _ _ _ _ _ _ _ _ _ [_, _, _, _, _, _, _, _, _, _, _, _, _, _, _, _, _, _, _, _] _ [_, _, _] _ _ _ _ _ rfl rfl ?kho
          case kho => exact rfl
          case te => exact fun h' tk' g' m' nw F N off j => Turn.next nw F N (fun _ h => h) off trivial j
          case hm => exact fun z hz => if_neg (by rw [hz]; exact Bool.false_ne_true)
          case ks =>
            exact Sub.pick [2, 3, 4, 5, 7, 8] 9 rfl
  · intro h3 tk3 g3 m' nw hJ F3 N3
    k_steps
    unfold Halt
    refine' hf' _ _ _ _ H v s _ _ _ Q noE m' nw ctx V hJ F3 N3 ?ke _ _ _ _ _ _ _ _ _ [_, _, _, _, _, _, _, _, _, _, _, _, _, _, _, _, _, _, _, _, _] _ rfl ?kho
    case kho => exact rfl
    case ke => exact hret
end Mine

-- LawStr
theorem Mine.gap_LawStr : True ∧ True := by w_top off; walk1 <;> trivial
namespace Mine
open PySem PySem.W PySem.Calls PyProof.Rows
set_option maxRecDepth 100000
theorem kf_start16 (w : World) : PySem.Challenge.rw_zd0009_01 = PySem.Challenge.rw_zd0009_01 → findIn (hd.heap_1 w.params) (.ref 107) "__getattr__" = some none := by k_fill; intro _; k_is
/-- between the turns of «[str(row) for row in ..]» -/
structure StrJ (rest : List (Addr × Obj)) (l : List Str) (j : Nat) (ys : List Value) (nw : List (Addr × Obj)) (g : Array GenState) : Prop where
  bare : AllBare g
  led : ∃ ps : Array Value, TriplesOk ps.toList ∧ nw = (77, tabObj ps) :: rest
  txts : StrsAre ys (l.take j)
theorem join_cont (prs : List Pr) : Txt.join Str.empty ((List.range prs.length).map (strAt prs)) = joinC (prs.map (fun q => (q.2.1, q.2.2.2.1))) := by
  unfold joinC
  congr 1
  refine List.ext_getElem? fun i => ?_
  rw [List.getElem?_map, List.getElem?_map, List.getElem?_map]
  by_cases h : i < prs.length
  · rw [List.getElem?_range h, List.getElem?_eq_getElem h]
    unfold strAt
    rw [Option.map_some, List.getElem?_eq_getElem h]
    rfl
  · rw [List.getElem?_eq_none (by simpa using h), List.getElem?_eq_none (by simpa using h)]; rfl
theorem str_row (w : World) (p : Program) (loose : List Str) (mean : ExcName → Option Value) (mg mb : Str → Option Value) {dp un : Nat} {gd : Option (List Code)} {cn : Str} {cs : Scope} {a : Addr} {ccd : Value} {cl : List (Str × Addr)} {outer : List Env} {A₀ : Around} {base h₀ : Heap} {L : Addr} {m : Str → Option Value} {s : Shared} {Q E : Value → Shared → Prop}
    (B : Below A₀ base outer h₀) (F : Fr h₀ L s.heap m) (X : (hd.heap_1 w.params).In h₀) {r : Rw} {ps : Array Value} {rest : List (Addr × Obj)} (N : News h₀ L s.heap ((77, tabObj ps) :: rest)) (T : Top p loose mean mg mb h₀) (hbare : AllBare s.gens) (hk : cs.kind = .function) (hdp : dp + 4 < recursionLimit) (hun : un + 200 < cLine)
    (ht : TriplesOk ps.toList) (hr : ∀ q ∈ r.led, q ∈ rest) (h77 : ∀ p ∈ rest, p.1 ≠ 77) (hsh : ∀ q ∈ r.prs, q.2.1.length ≤ 1000 ∧ q.2.2.2.1.length ≤ 1000) (hn : r.prs.length ≤ 1000)
    (hQ : ∀ ps' h' tk' g' t, TriplesOk ps'.toList → AllBare g' → Fr h₀ L h' m → News h₀ L h' ((77, tabObj ps') :: rest) → Q (.str (joinC r.cont) t) { s with heap := h', toks := tk', gens := g' }) :
    wpAny (model PySem.Challenge.rw_zd0009_01.row.prog w) (ktrTop dp un gd cn cs L a ccd cl outer) (call (.type "str") [.ref r.x]) Q E s := by
  have hs82 : findIn (hd.heap_1 w.params) (.ref 107) "__str__" = some (some (.ref 82)) := by k_is
  have hf82 : isFn (hd.heap_1 w.params) (.ref 82) = true := by k_is
  have hx := hr (r.x, accObj r.dx (prIts r.prs) r.n) List.mem_cons_self
  have hdx := hr (r.dx, r.od) (List.mem_cons_of_mem _ List.mem_cons_self)
  have hT : ∀ q ∈ r.prs, (q.1, prTup q) ∈ rest := fun q hq => hr _ (List.mem_cons_of_mem _ (List.mem_cons_of_mem _ (List.mem_map.mpr ⟨q, hq, rfl⟩)))
  refine kso_call ?_ (X.keeps F.keep) (acc_inst (N _ (List.mem_cons_of_mem _ hx)).1 (N _ (List.mem_cons_of_mem _ hdx)).1) hs82 hf82 ?_
  · show un + 1 + 1 < cLine
    omega
  refine str_spec w p loose mean mg mb r.x r.dx r.prs r.n r.od ps rest ht hx hdx hT h77 hsh hn _ _ _ _ _ _ _ _ _ _ _ _ _ _ _ _ _ B F X N T hbare hk (by simp only [Around.in1]; omega) (by simp only [Around.in1]; omega) ?_
  rintro _ _ h' tk' g' hb' F' N' ⟨ps', t, ht', rfl, rfl⟩
  rw [join_cont]
  exact hQ ps' h' tk' g' t ht' hb' F' N'
end Mine

-- LawT2
theorem Mine.gap_LawT2 : True ∧ True := by w_top off; walk1 <;> trivial
namespace Mine
open PySem PySem.W PySem.Calls PyProof.Rows
set_option maxRecDepth 100000

local macro_rules | `(tactic| walk_at "call ref") => `(tactic| ((with_reducible show wpAny _ _ (call (Value.ref _) _ _) _ _ _); refine Halt.of ?_))
local macro_rules | `(tactic| walk_at "compareOp NotEq ref ref") => `(tactic| ((with_reducible show wpAny _ _ (compareOp CmpOp.NotEq (Value.ref _) (Value.ref _)) _ _ _); refine Halt.of ?_))
local macro_rules | `(tactic| walk_at "execs cons") => `(tactic| ((with_reducible show wpAny _ _ (execs (Stmt.If (Expr.BoolOp _ _ _) _ _ _ :: _) _) _ _ _); refine Halt.of ?_))
theorem kf_start15 (w : World) : PySem.Challenge.rw_zd0009_01 = PySem.Challenge.rw_zd0009_01 → findIn (hd.heap_1 w.params) (.ref 107) "__getattr__" = some none := by k_fill; intro _; k_is
theorem off_l2 {m₁ : Str → Option Value} {f : Str → Option Value} (h : ∀ z, lvars.contains z = false → m₁ z = f z) : m₁ = fun z => if lvars.contains z = true then m₁ z else f z := by
  funext z
  by_cases e : lvars.contains z = true
  · rw [if_pos e]
  · rw [if_neg e]; exact h z (by simpa using e)
theorem ne_obj {h₀ h : Heap} {L : Addr} {news : List (Addr × Obj)} (N : News h₀ L h news) {p q : Addr × Obj} (hp : p ∈ news) (hq : q ∈ news) (h : p.2 ≠ q.2) : p.1 ≠ q.1 := fun e => by
  have a := (N p hp).1
  have b := (N q hq).1
  rw [e, b] at a
  exact h (Option.some.inj a).symm
theorem led_list {w : World} {rs : List Rw} (K : RowsOk w rs) : ∀ p ∈ rowsLed rs, ∀ its n, p.2 ≠ listOf its n := by
  intro p hp its n
  obtain ⟨r, hr, hp⟩ := mem_rowsLed.mp hp
  rcases List.mem_cons.mp hp with rfl | hp
  · simp
  · rcases List.mem_cons.mp hp with rfl | hp
    · intro e
      have h1 := (K.od r hr).1
      simp only at e
      rw [e] at h1
      unfold lookIn at h1
      cases h1
    · obtain ⟨q, _, rfl⟩ := List.mem_map.mp hp
      simp
theorem mE_off {v : LV} {b b' : Int} {t t' : Tok} {z : Str} (h : z ≠ Str.ofString "begun") : v.mE b t z = v.mE b' t' z := by
  unfold LV.mE mE
  simp only [if_neg h]
theorem mE_beg {v : LV} {b : Int} {t : Tok} : v.mE b t (Str.ofString "begun") = some (.int b t) := by rfl
set_option maxHeartbeats 1000000 in
theorem law_t2 (w : World) (ht3 : PartT3 w) : PartT2 w := by
  intro loose mean mg mb H v s h tk g Q E i I oI m₁ tt t ti mes kme el kev oc ps ps' ctx V hbare hi hev hoc hps hps' hmes hel hm F N offI ltI hret
  intro occ pm cd doc od osl name params scope before rest bb brest orelse tgt it pos hbl hbb ho
  generalize hw : before ++ Stmt.For tgt it (bb ++ brest) orelse pos :: rest = whole at ho
  cases ho
  have hr := List.drop_left' (l₂ := Stmt.For tgt it (bb ++ brest) orelse pos :: rest) hbl
  rw [hw] at hr
  clear hw hbl
  simp only [List.drop_succ_cons, List.drop_zero, List.cons.injEq, Stmt.For.injEq] at hr
  obtain ⟨⟨e1, e2, hr, e4, e5⟩, e6⟩ := hr
  have hr2 := List.drop_left' (l₂ := brest) hbb
  rw [← hr] at hr2
  clear hr hbb e1 e2 e4 e5 e6
  simp only [List.drop_succ_cons, List.drop_zero] at hr2
  subst hr2
  have kMark : KstMark := kstMark
  have B' := below_caller H
  have X' := ctx.X
  have T' := ctx.T
  have hz := V.hz
  have hn5 : v.n = 3 ∨ v.n = 5 := sz3 hz
  have hn1 : 1 ≤ v.n ∧ v.n ≤ 5 := by omega
  have hsh := V.hsh
  have h32 : 2 ^ v.n ≤ 32 := by rcases hn5 with h | h <;> rw [h] <;> decide
  have bi : (i : Int) < 32 := by omega
  have l70 := ctx.l70
  have l77 := ctx.l77
  have b3 := V.lme3
  have b4 := V.lml
  have hto := told_ok (n := v.n) (sh := v.sh) (c := i) hn1.2 hsh hi
  rw [off_l2 hm] at F
  obtain ⟨kg, mg'⟩ := V.mg
  obtain ⟨kf, mf⟩ := V.mf
  k_steps
  unfold Halt
  refine tab_spec w noProg loose mean mg mb v.gs v.fs v.lg v.lf kg kf (fls v.sh v.n) (Txt.split (told v.sh i) (Str.ofString ", ")) (told v.sh i) _ (pcB v.bs) V.hfs (gs_ok hz _ V.hgs) rfl hto.2.1 hto.1 (fls_ok hsh hn1.2).1 (by rw [fls_len]; omega) ((I, oI) :: ledE v mes kme el kev oc ps ps') (List.mem_cons_of_mem _ (led_base _ mg')) (List.mem_cons_of_mem _ (led_base _ mf)) _ _ _ _ _ _ _ _ _ _ _ _ _ _ _ _ _ B' F X' N T' hbare rfl (by decide) (by decide) ?_
  rintro _ _ h2 tk2 g2 hb2 F2 N2 ⟨lr, rs, kr, rfl, rfl, hrok, hcont, lrlt, hrlt⟩
  rw [told_tab hz hsh hi] at hcont
  have hlen := rows_len hcont
  have kindR := led_kind hrok
  k_steps
  unfold Halt
  (rename News _ _ _ _ => N3)
  (rename Fr _ _ _ _ => F3)
  have m70 : (70, tabObj ps) ∈ ledE v mes kme el kev oc ps ps' := led_70
  have m77 : (77, tabObj ps') ∈ ledE v mes kme el kev oc ps ps' := led_77
  have g1 : ∀ a : Nat, v.L + 3 ≤ a → a ≠ 70 ∧ a ≠ 77 := fun a ha => ⟨Nat.ne_of_gt (Nat.lt_of_lt_of_le l70 (Nat.le_trans (Nat.le_add_right _ _) ha)), Nat.ne_of_gt (Nat.lt_of_lt_of_le l77 (Nat.le_trans (Nat.le_add_right _ _) ha))⟩
  have r70 : ∀ p ∈ (I, oI) :: (v.lev, listOf (elRefs el).toArray kev) :: (v.lme, listOf mes.toArray kme) :: (v.L + 3, oc) :: (elLed el ++ v.base), p.1 ≠ 70 ∧ p.1 ≠ 77 :=
    all_cons (g1 I (Nat.le_of_lt (Nat.lt_trans b3 (Nat.lt_trans b4 ltI)))) (all_cons (g1 v.lev (Nat.le_of_lt (Nat.lt_trans b3 b4))) (all_cons (g1 v.lme (Nat.le_of_lt b3)) (all_cons (g1 _ (Nat.le_refl _)) (all_app (el_all (P := fun a => a ≠ 70 ∧ a ≠ 77) fun e he => g1 e.1 (Nat.le_of_lt (Nat.lt_trans b3 (Nat.lt_trans b4 (hel.above e he))))) fun p hp => ⟨(V.lo3 p hp).1, (V.lo3 p hp).2.1⟩))))
  have q70 : ∀ p ∈ (lr, listOf (rs.map (fun r : Rw => Value.ref r.x)).toArray kr) :: (rowsLed rs ++ ((I, oI) :: (v.lev, listOf (elRefs el).toArray kev) :: (v.lme, listOf mes.toArray kme) :: (v.L + 3, oc) :: (elLed el ++ v.base))), p.1 ≠ 70 ∧ p.1 ≠ 77 :=
    all_cons ⟨Nat.ne_of_gt (lrlt _ (List.mem_cons_of_mem _ m70)), Nat.ne_of_gt (lrlt _ (List.mem_cons_of_mem _ m77))⟩ (all_app (fun p hp => ⟨ne_addr N3 (List.mem_cons_of_mem _ (List.mem_append_left _ hp)) (q := (70, tabObj ps)) (List.mem_cons_of_mem _ (List.mem_append_right _ (List.mem_cons_of_mem _ m70))) ((kindR p hp).2 _), ne_addr N3 (List.mem_cons_of_mem _ (List.mem_append_left _ hp)) (q := (77, tabObj ps')) (List.mem_cons_of_mem _ (List.mem_append_right _ (List.mem_cons_of_mem _ m77))) ((kindR p hp).2 _)⟩) r70)
  have rk : ∀ p ∈ rowsLed rs, p.1 ≠ v.lme ∧ p.1 ≠ v.lev := fun p hp => ⟨ne_obj N3 (List.mem_cons_of_mem _ (List.mem_append_left _ hp)) (q := (v.lme, listOf mes.toArray kme)) (List.mem_cons_of_mem _ (List.mem_append_right _ (List.mem_cons_of_mem _ led_lme))) (led_list hrok p hp _ _), ne_obj N3 (List.mem_cons_of_mem _ (List.mem_append_left _ hp)) (q := (v.lev, listOf (elRefs el).toArray kev)) (List.mem_cons_of_mem _ (List.mem_append_right _ (List.mem_cons_of_mem _ led_lev))) (led_list hrok p hp _ _)⟩
  have lrl : v.lev < lr := lrlt (v.lev, listOf (elRefs el).toArray kev) (List.mem_cons_of_mem _ led_lev)
  have mrs : ∀ q ∈ rowsLed rs, q ∈ (lr, listOf (rs.map (fun r : Rw => Value.ref r.x)).toArray kr) :: (rowsLed rs ++ ((I, oI) :: (v.lev, listOf (elRefs el).toArray kev) :: (v.lme, listOf mes.toArray kme) :: (v.L + 3, oc) :: (elLed el ++ v.base))) := fun q hq => List.mem_cons_of_mem _ (List.mem_append_left _ hq)
  replace N3 := sub_news (news' := (70, tabObj ps) :: (77, tabObj ps') :: (v.L + 3, oc) :: (lr, listOf (rs.map (fun r : Rw => Value.ref r.x)).toArray kr) :: (rowsLed rs ++ ((I, oI) :: (v.lev, listOf (elRefs el).toArray kev) :: (v.lme, listOf mes.toArray kme) :: (v.L + 3, oc) :: (elLed el ++ v.base)))) N3 (Sub.cons (mid (U1 led_70)) (Sub.cons (mid (U1 led_77)) (Sub.cons (mid (U1 led_L3)) (Sub.cons M0 (Sub.tail (Sub.app (Sub.pick [0, 1, 2, 3] 6 rfl)))))))
  have hback : ∀ (ps2 : Array Value) (ps3 : Array Value), ∀ q ∈ (lr, listOf (rs.map (fun r : Rw => Value.ref r.x)).toArray kr) :: (rowsLed rs ++ ((I, oI) :: ledE v mes kme el kev oc ps2 ps3)), q ∈ (70, tabObj ps2) :: (77, tabObj ps3) :: (lr, listOf (rs.map (fun r : Rw => Value.ref r.x)).toArray kr) :: (rowsLed rs ++ ((I, oI) :: (v.lev, listOf (elRefs el).toArray kev) :: (v.lme, listOf mes.toArray kme) :: (v.L + 3, oc) :: (elLed el ++ v.base))) := by
    intro ps2 ps3
    exact Sub.cons M2 (Sub.both (Sub.tail (Sub.tail (Sub.tail Sub.left))) (Sub.cons (mid3 M0) (led_in (mid3 M1) (mid3 M2) (mid3 M3) M0 M1 fun q hq => mid3 (U4 hq))))
  have mlr : (lr, listOf (rs.map (fun r : Rw => Value.ref r.x)).toArray kr) ∈ (lr, listOf (rs.map (fun r : Rw => Value.ref r.x)).toArray kr) :: (rowsLed rs ++ ((I, oI) :: (v.lev, listOf (elRefs el).toArray kev) :: (v.lme, listOf mes.toArray kme) :: (v.L + 3, oc) :: (elLed el ++ v.base))) := List.mem_cons_self
  generalize (lr, listOf (rs.map (fun r : Rw => Value.ref r.x)).toArray kr) :: (rowsLed rs ++ ((I, oI) :: (v.lev, listOf (elRefs el).toArray kev) :: (v.lme, listOf mes.toArray kme) :: (v.L + 3, oc) :: (elLed el ++ v.base))) = rest0 at q70 mrs N3 hback mlr
  have l3n : v.L + 3 ≠ 70 ∧ v.L + 3 ≠ 77 := r70 (v.L + 3, oc) M3
  refine odd_spec w noProg loose mean mg mb lr rs kr ps ((77, tabObj ps') :: (v.L + 3, oc) :: rest0) hps (U2 mlr) (fun q hq => U2 (mrs q hq)) (List.forall_mem_cons.mpr ⟨by show (77 : Nat) ≠ 70; decide, List.forall_mem_cons.mpr ⟨l3n.1, fun p hp => (q70 p hp).1⟩⟩) hrok (rows_small hn1.2 hcont) (by omega) _ _ _ _ _ _ _ _ _ _ _ _ _ _ _ _ _ B' F3 X' N3 T' hb2 rfl (by decide) (by decide) ?_
  rintro _ _ h6 tk6 g6 hb6 F6 N6 ⟨ps2, t6, hps2, rfl, rfl⟩
  rw [odd_cast, hcont, hlen]
  rw [show (((List.range v.n).filter (fun j => decide (lenC ((tabC v.bs v.n i).getD j []) % 2 = 1))).map (fun j => 2 ^ j)).sum = oddN v.bs v.n i from rfl]
  have hxor := odd_xor hz hi hev
  have offI' : ∀ (ps3 ps4 : Array Value), ∀ p ∈ ledE v mes kme el kev oc ps3 ps4, p.1 ≠ I := fun _ _ => led_off offI
  have hle : v.lev < I := ltI
  have rq : ∀ p ∈ rowsLed rs, p.1 ≠ 70 ∧ p.1 ≠ 77 ∧ p.1 ≠ v.lme ∧ p.1 ≠ v.lev := fun p hp => ⟨(q70 p (mrs p hp)).1, (q70 p (mrs p hp)).2, rk p hp⟩
  k_steps
  · unfold Halt
    (rename News _ _ _ _ => N7)
    (rename Fr _ _ _ _ => F7)
    have hi0 : i = 0 := by have : (i : Int) = 0 := by assumption
                           omega
    subst hi0
    replace N7 := sub_news (news' := (77, tabObj ps') :: (70, tabObj ps2) :: (v.L + 3, oc) :: rest0) N7 (Sub.pick [1, 0] 2 rfl)
    refine comp_eval F7 (by with_unfolding_all rfl) (by decide) (by rfl) (by decide) (by rfl) ?_
    k_steps
    unfold Halt
    have hlm : (lr, listOf (rs.map (fun r : Rw => Value.ref r.x)).toArray kr) ∈ (77, tabObj ps') :: (70, tabObj ps2) :: (v.L + 3, oc) :: rest0 := U3 mlr
    refine ⟨_, _, _, _, StrJ ((70, tabObj ps2) :: (v.L + 3, oc) :: rest0) ((tabC v.bs v.n 0).map joinC), F7, N7, ?_, src_list rfl F7 N7 hlm, hlm, ⟨hb6, ⟨ps', hps', rfl⟩, .nil⟩, CTurn.plain ?_, ?_⟩
    · rw [List.length_map, sizeLine_eq]; omega
    · rintro j ys nw vv I2 oI2 C oC D m₂ h8 tk8 g8 E' hj hyl ⟨hb8, ⟨ps3, hp3, rfl⟩, hys⟩ hS hv hoC hm2 F8 N8 off8 ne8 lt8
      rw [List.length_map] at hj
      obtain ⟨r1, hr1⟩ : ∃ r, rs[j]? = some r := ⟨_, List.getElem?_eq_getElem hj⟩
      have hr1m := List.mem_of_getElem? hr1
      rw [List.getElem?_map, hr1] at hv
      cases hv
      dsimp only at hm2
      k_steps
      have o77 := off8 (77, tabObj ps3) List.mem_cons_self
      have hsm := rows_small hn1.2 hcont r1 hr1m
      refine str_row w noProg loose mean mg mb (r := r1) (ps := ps3) (rest := (I2, oI2) :: (C, oC) :: (D, LCg.lst ys) :: (70, tabObj ps2) :: (v.L + 3, oc) :: rest0) B' F8 X' (sub_news N8 ?_) T' hb8 rfl (by decide) (by decide) hp3 (fun q hq => U5 (mrs q (mem_rowsLed.mpr ⟨r1, hr1m, hq⟩))) ?_ hsm.2 (by omega) ?_
      · exact Sub.pick [3, 0, 1, 2] 4 rfl
      · exact List.forall_mem_cons.mpr ⟨o77.1.symm, List.forall_mem_cons.mpr ⟨o77.2.1.symm, List.forall_mem_cons.mpr ⟨o77.2.2.symm, List.forall_mem_cons.mpr ⟨by show (70 : Nat) ≠ 77; decide, List.forall_mem_cons.mpr ⟨l3n.2, fun p hp => (q70 p hp).2⟩⟩⟩⟩⟩
      intro ps4 h9 tk9 g9 t9 hp4 hb9 F9 N9
      k_steps
      unfold Halt
      refine CEnd.intro F9 N9 ((77, tabObj ps4) :: (70, tabObj ps2) :: (v.L + 3, oc) :: rest0) ?_ ?_ (U3 mlr) ⟨hb9, ⟨ps4, hp4, rfl⟩, ?_⟩
      · exact Sub.pick [1, 2, 3, 0] 4 rfl
      · exact List.forall_mem_cons.mpr ⟨o77, fun p hp => off8 p (List.mem_cons_of_mem _ hp)⟩
      · have ec : (tabC v.bs v.n 0)[j]? = some r1.cont := by rw [← hcont, List.getElem?_map, hr1]; rfl
        rw [List.take_succ, List.getElem?_map, ec]
        exact strs_snoc hys _ _
    · rintro D h8 tk8 g8 ys nw F8 N8 off8 lt8 ⟨hb8, ⟨ps3, hp3, rfl⟩, hys⟩ hS
      have el1 : (rs.map (fun r : Rw => Value.ref r.x)).length = ((tabC v.bs v.n 0).map joinC).length := by rw [List.length_map, List.length_map, ← hcont, List.length_map]
      rw [el1, List.take_length, rows_join hz, rowsC0] at hys
      k_steps
      unfold Halt
      refine rows_spec w noProg loose mean mg mb v.bs v.n _ _ _ hz _ _ _ _ _ _ _ _ _ _ _ _ _ _ _ _ _ B' F8 X' N8 T' rfl (by decide) (by decide) ?_
      rintro _ _ h9 tk9 F9 N9 ⟨la2, us2, ka2, rfl, rfl, hus2⟩
      simp only [List.cons_append, List.nil_append] at N9
      k_steps
      unfold Halt
      refine ne_strs (News.isList N9 (List.mem_cons_of_mem _ List.mem_cons_self)) (News.isList N9 List.mem_cons_self) hys hus2 (rowsS_ok hn1.2) (rowsS_ok hn1.2) (by (first | decide | ktr_units)) ?_
      have efl : (!decide (rowsS v.bs v.n = rowsS v.bs v.n)) = false := by rw [decide_eq_true rfl]; rfl
      rw [show (List.range v.n).map (rowT v.bs v.n) = rowsS v.bs v.n from rfl, efl]
      k_steps
      · have h2 : ((oddN v.bs v.n 0 : Nat) : Int) ≠ Builtin.bitXor ((oddN v.bs v.n 0 : Nat) : Int) ((0 : Nat) : Int) := by assumption
        exact absurd (by rw [xor_cast (Nat.lt_of_lt_of_le (oddN_lt _ _ _) h32) (by decide), Nat.xor_zero]) h2
      · unfold Halt
        (rename News _ _ _ _ => Nx)
        (rename Fr _ _ _ _ => Fx)
        have eF : ∀ (tt to tb : Tok), (fun y => if y = Str.ofString "begun" then some (Value.int (oddN v.bs v.n 0 : Int) tb) else if y = Str.ofString "odd" then some (Value.int (oddN v.bs v.n 0 : Int) to) else if y = Str.ofString "rows" then some (Value.ref lr) else if y = Str.ofString "told" then some (Value.str (told v.sh 0) tt) else (fun z => if lvars.contains z = true then m₁ z else v.mE (begI v 0) t z) y)
            = (fun y => if y = Str.ofString "odd" then some (Value.int (oddN v.bs v.n 0 : Int) to) else if y = Str.ofString "rows" then some (Value.ref lr) else if y = Str.ofString "told" then some (Value.str (told v.sh 0) tt) else (fun z => if z = Str.ofString "begun" then some (Value.int (oddN v.bs v.n 0 : Int) tb) else if lvars.contains z = true then m₁ z else v.mE (begI v 0) t z) y) := by
          intro tt to tb
          funext y
          by_cases e : y = Str.ofString "begun"
          · subst e; rfl
          · simp only [if_neg e]
        rw [eF] at Fx
        refine' ht3 _ _ _ _ H v s _ _ _ _ _ 0 I oI (fun z => if z = Str.ofString "begun" then some (Value.int (oddN v.bs v.n 0 : Int) _) else if lvars.contains z = true then m₁ z else v.mE (begI v 0) t z) _ _ _ _ mes kme el kev oc ps2 ps3 lr rs kr ctx V hb8 hi hev hoc hps2 hp3 hmes hel ?hm hrok hcont Fx (sub_news Nx ?ks) (offI' _ _) hle rq lrl ?te _ _ _ _ _ _ _ _ _ [_, _, _, _, _, _, _, _, _, _, _, _, _, _, _, _, _, _, _, _] _ [_, _, _, _, _, _, _] _ _ _ _ _ rfl rfl ?kho
        case kho => exact rfl
        case te => exact hret
        case hm =>
          intro z hz'
          by_cases e : z = Str.ofString "begun"
          · subst e
            rw [mE_beg]
            rfl
          · show (if z = Str.ofString "begun" then _ else if lvars.contains z = true then m₁ z else _) = _
            rw [if_neg e, if_neg (by rw [hz']; exact Bool.false_ne_true), mE_off e]
        case ks =>
          exact fun q hq => (Sub.pick [3, 2] 5 rfl : Sub _ _) q (hback ps2 ps3 q hq)
  · have h0 : (i : Int) ≠ 0 := by assumption
    have h1 : i ≠ 0 := by omega
    have h2 : ((oddN v.bs v.n i : Nat) : Int) ≠ Builtin.bitXor (begI v i) (i : Int) := by assumption
    refine absurd ?_ h2
    unfold begI
    rw [if_neg h1, xor_cast (Nat.lt_of_lt_of_le (oddN_lt _ _ _) h32) (Nat.lt_of_lt_of_le hi h32), hxor]
  · have h0 : (i : Int) ≠ 0 := by assumption
    have h1 : i ≠ 0 := by omega
    unfold Halt
    (rename News _ _ _ _ => Nx)
    (rename Fr _ _ _ _ => Fx)
    refine' ht3 _ _ _ _ H v s _ _ _ _ _ i I oI (fun z => if lvars.contains z = true then m₁ z else v.mE (begI v i) t z) _ t _ _ mes kme el kev oc ps2 ps' lr rs kr ctx V hb6 hi hev hoc hps2 hps' hmes hel ?hm hrok hcont Fx (sub_news Nx ?ks) (offI' _ _) hle rq lrl ?te _ _ _ _ _ _ _ _ _ [_, _, _, _, _, _, _, _, _, _, _, _, _, _, _, _, _, _, _, _] _ [_, _, _, _, _, _, _] _ _ _ _ _ rfl rfl ?kho
    case kho => exact rfl
    case te => exact hret
    case hm =>
      intro z hz'
      show (if lvars.contains z = true then m₁ z else _) = _
      rw [if_neg (by rw [hz']; exact Bool.false_ne_true), beg_s h1]
    case ks =>
      exact fun q hq => (Sub.pick [0, 1] 3 rfl : Sub _ _) q (hback ps2 ps' q hq)
end Mine

-- LawT4
theorem Mine.gap_LawT4 : True ∧ True := by w_top off; walk1 <;> trivial
namespace Mine
open PySem PySem.W PySem.Calls PyProof.Rows
set_option maxRecDepth 100000

local macro_rules | `(tactic| walk_at "call ref") => `(tactic| ((with_reducible show wpAny _ _ (call (Value.ref _) _ _) _ _ _); refine Halt.of ?_))
local macro_rules | `(tactic| walk_at "call builtin:list.append") => `(tactic| ((with_reducible show wpAny _ _ (call (Value.builtin "list.append") _) _ _ _); refine Halt.of ?_))
theorem kf_start17 (w : World) : PySem.Challenge.rw_zd0009_01 = PySem.Challenge.rw_zd0009_01 → findIn (hd.heap_1 w.params) (.ref 107) "__getattr__" = some none := by k_fill; intro _; k_is
/-- from «if odd == 0 ..» on, in a turn -/
def PartT4 (w : World) : Prop :=
  ∀ (loose : List Str) (mean : ExcName → Option Value) (mg mb : Str → Option Value) (H : Heap) (v : LV) (s : Shared) (h : Heap) (tk : Nat) (g : Array GenState) (Q : Flow → Shared → Prop) (E : Value → Shared → Prop) (i : Nat) (I : Addr) (oI : Obj) (m₁ : Str → Option Value) (tt t ti to : Tok) (mes : List Value) (kme : Nat) (el : List El) (kev : Nat) (oc : Obj) (ps ps' : Array Value) (lr : Addr) (rs : List Rw) (kr : Nat),
    LawCtx w loose mean mg mb H v.L → v.ok w → AllBare g → i < 2 ^ v.n → evenC v.n i = true → oc.data = .cell (some (.int (i : Int) ti)) → TriplesOk ps.toList → TriplesOk ps'.toList →
    IntsAre mes ((metL v.bs v.ds v.n (i + 1)).map (fun (c : Nat) => (c : Int))) → ElOk v el (evenL v.bs v.n i) → (∀ z, lvars.contains z = false → m₁ z = v.mE (begI v (i + 1)) t z) → RowsOk w rs → rs.map Rw.cont = tabC v.bs v.n i →
    Fr H v.L h (fun y => if y = Str.ofString "odd" then some (.int (oddN v.bs v.n i : Int) to) else if y = Str.ofString "rows" then some (.ref lr) else if y = Str.ofString "told" then some (.str (told v.sh i) tt) else m₁ y) →
    News H v.L h ((lr, listOf (rs.map (fun r : Rw => Value.ref r.x)).toArray kr) :: (rowsLed rs ++ ((I, oI) :: ledE v mes kme el kev oc ps ps'))) → (∀ p ∈ ledE v mes kme el kev oc ps ps', p.1 ≠ I) → v.lev < I → (∀ p ∈ rowsLed rs, p.1 ≠ 70 ∧ p.1 ≠ 77 ∧ p.1 ≠ v.lme ∧ p.1 ≠ v.lev) → v.lev < lr →
    TurnEnd H v s I oI i Q → TurnAt w 8 v.L Q E { s with heap := h, toks := tk, gens := g }
theorem el_len {v : LV} {el : List El} {k : Nat} (h : ElOk v el (evenL v.bs v.n k)) : el.length ≤ k := by
  have e := congrArg List.length h.eqn
  rw [List.length_map] at e
  rw [e]
  unfold evenL
  rw [List.length_map]
  exact Nat.le_trans (List.length_filter_le _ _) (by rw [List.length_range]; exact Nat.le_refl _)
set_option maxHeartbeats 1000000 in
theorem law_t4 (w : World) : PartT4 w := by
  intro loose mean mg mb H v s h tk g Q E i I oI m₁ tt t ti to mes kme el kev oc ps ps' lr rs kr ctx V hbare hi hev hoc hps hps' hmes hel hm hrok hcont F N offI ltI rq lrl hret
  intro occ pm cd doc od osl name params scope before rest bb brest orelse tgt it pos hbl hbb ho
  generalize hw : before ++ Stmt.For tgt it (bb ++ brest) orelse pos :: rest = whole at ho
  cases ho
  have hr := List.drop_left' (l₂ := Stmt.For tgt it (bb ++ brest) orelse pos :: rest) hbl
  rw [hw] at hr
  clear hw hbl
  simp only [List.drop_succ_cons, List.drop_zero, List.cons.injEq, Stmt.For.injEq] at hr
  obtain ⟨⟨e1, e2, hr, e4, e5⟩, e6⟩ := hr
  have hr2 := List.drop_left' (l₂ := brest) hbb
  rw [← hr] at hr2
  clear hr hbb e1 e2 e4 e5 e6
  simp only [List.drop_succ_cons, List.drop_zero] at hr2
  subst hr2
  have kMark : KstMark := kstMark
  have B' := below_caller H
  have X' := ctx.X
  have T' := ctx.T
  have hz := V.hz
  have hn5 : v.n = 3 ∨ v.n = 5 := sz3 hz
  have hn1 : 1 ≤ v.n ∧ v.n ≤ 5 := by omega
  have h32 : 2 ^ v.n ≤ 32 := by rcases hn5 with h | h <;> rw [h] <;> decide
  have bi : (i : Int) < 32 := by omega
  have l70 := ctx.l70
  have l77 := ctx.l77
  have b3 := V.lme3
  have b4 := V.lml
  have hlen := rows_len hcont
  rw [off_l hm] at F
  have g1 : ∀ a : Nat, v.L + 3 ≤ a → a ≠ 70 ∧ a ≠ 77 := fun a ha => ⟨Nat.ne_of_gt (Nat.lt_of_lt_of_le l70 (Nat.le_trans (Nat.le_add_right _ _) ha)), Nat.ne_of_gt (Nat.lt_of_lt_of_le l77 (Nat.le_trans (Nat.le_add_right _ _) ha))⟩
  have q77 : ∀ p ∈ (lr, listOf (rs.map (fun r : Rw => Value.ref r.x)).toArray kr) :: (rowsLed rs ++ ((I, oI) :: (v.lev, listOf (elRefs el).toArray kev) :: (v.lme, listOf mes.toArray kme) :: (v.L + 3, oc) :: (70, tabObj ps) :: (elLed el ++ v.base))), p.1 ≠ 77 :=
    all_cons (g1 lr (Nat.le_of_lt (Nat.lt_trans b3 (Nat.lt_trans b4 lrl)))).2 (all_app (fun p hp => (rq p hp).2.1) (all_cons (g1 I (Nat.le_of_lt (Nat.lt_trans b3 (Nat.lt_trans b4 ltI)))).2 (all_cons (g1 v.lev (Nat.le_of_lt (Nat.lt_trans b3 b4))).2 (all_cons (g1 v.lme (Nat.le_of_lt b3)).2 (all_cons (g1 _ (Nat.le_refl _)).2 (all_cons (by show (70 : Nat) ≠ 77; decide) (all_app (el_all (P := fun a => a ≠ 77) fun e he => (g1 e.1 (Nat.le_of_lt (Nat.lt_trans b3 (Nat.lt_trans b4 (hel.above e he))))).2) fun p hp => (V.lo3 p hp).2.1)))))))
  have mrs : ∀ q ∈ rowsLed rs, q ∈ (lr, listOf (rs.map (fun r : Rw => Value.ref r.x)).toArray kr) :: (rowsLed rs ++ ((I, oI) :: (v.lev, listOf (elRefs el).toArray kev) :: (v.lme, listOf mes.toArray kme) :: (v.L + 3, oc) :: (70, tabObj ps) :: (elLed el ++ v.base))) := fun q hq => List.mem_cons_of_mem _ (List.mem_append_left _ hq)
  have hback : ∀ (ps3 : Array Value), ∀ q ∈ (I, oI) :: ledE v mes kme el kev oc ps ps3, q ∈ (77, tabObj ps3) :: (lr, listOf (rs.map (fun r : Rw => Value.ref r.x)).toArray kr) :: (rowsLed rs ++ ((I, oI) :: (v.lev, listOf (elRefs el).toArray kev) :: (v.lme, listOf mes.toArray kme) :: (v.L + 3, oc) :: (70, tabObj ps) :: (elLed el ++ v.base))) := by
    intro ps3
    exact Sub.cons (mid2 M0) (led_in (mid2 M1) (mid2 M2) (mid2 M3) (mid2 M4) M0 fun q hq => mid2 (U5 hq))
  replace N := sub_news (news' := (77, tabObj ps') :: (lr, listOf (rs.map (fun r : Rw => Value.ref r.x)).toArray kr) :: (rowsLed rs ++ ((I, oI) :: (v.lev, listOf (elRefs el).toArray kev) :: (v.lme, listOf mes.toArray kme) :: (v.L + 3, oc) :: (70, tabObj ps) :: (elLed el ++ v.base)))) N (Sub.cons (mid (U1 led_77)) (Sub.cons M0 (Sub.tail (Sub.app (Sub.pick [0, 1, 2, 3, 4] 6 rfl)))))
  have mlr : (lr, listOf (rs.map (fun r : Rw => Value.ref r.x)).toArray kr) ∈ (lr, listOf (rs.map (fun r : Rw => Value.ref r.x)).toArray kr) :: (rowsLed rs ++ ((I, oI) :: (v.lev, listOf (elRefs el).toArray kev) :: (v.lme, listOf mes.toArray kme) :: (v.L + 3, oc) :: (70, tabObj ps) :: (elLed el ++ v.base))) := List.mem_cons_self
  have mlev : (v.lev, listOf (elRefs el).toArray kev) ∈ (lr, listOf (rs.map (fun r : Rw => Value.ref r.x)).toArray kr) :: (rowsLed rs ++ ((I, oI) :: (v.lev, listOf (elRefs el).toArray kev) :: (v.lme, listOf mes.toArray kme) :: (v.L + 3, oc) :: (70, tabObj ps) :: (elLed el ++ v.base))) := mid M1
  have mI : (I, oI) ∈ (lr, listOf (rs.map (fun r : Rw => Value.ref r.x)).toArray kr) :: (rowsLed rs ++ ((I, oI) :: (v.lev, listOf (elRefs el).toArray kev) :: (v.lme, listOf mes.toArray kme) :: (v.L + 3, oc) :: (70, tabObj ps) :: (elLed el ++ v.base))) := mid M0
  have nolev : Sub ((I, oI) :: (v.lme, listOf mes.toArray kme) :: (v.L + 3, oc) :: (70, tabObj ps) :: (elLed el ++ v.base)) ((lr, listOf (rs.map (fun r : Rw => Value.ref r.x)).toArray kr) :: (rowsLed rs ++ ((I, oI) :: (v.lev, listOf (elRefs el).toArray kev) :: (v.lme, listOf mes.toArray kme) :: (v.L + 3, oc) :: (70, tabObj ps) :: (elLed el ++ v.base)))) := Sub.tail (Sub.right (Sub.pick [0, 2, 3, 4] 5 rfl))
  generalize (lr, listOf (rs.map (fun r : Rw => Value.ref r.x)).toArray kr) :: (rowsLed rs ++ ((I, oI) :: (v.lev, listOf (elRefs el).toArray kev) :: (v.lme, listOf mes.toArray kme) :: (v.L + 3, oc) :: (70, tabObj ps) :: (elLed el ++ v.base))) = rest1 at q77 mrs N hback mlr mlev mI nolev
  replace N := sub_news (news' := (v.lev, listOf (elRefs el).toArray kev) :: (77, tabObj ps') :: rest1) N (Sub.cons (U1 mlev) (Sub.self _))
  have hjm : ∀ (to : Tok) (tt : Tok), ∀ z, lvars.contains z = false → (fun y => if y = Str.ofString "odd" then some (Value.int (oddN v.bs v.n i : Int) to) else if y = Str.ofString "rows" then some (Value.ref lr) else if y = Str.ofString "told" then some (Value.str (told v.sh i) tt) else (fun z => if lvars.contains z = true then m₁ z else v.mE (begI v (i + 1)) t z) y) z = v.mE (begI v (i + 1)) t z := by
    intro to tt z hz'
    have z1 : z ≠ Str.ofString "odd" := fun e => by subst e; exact absurd hz' (by decide +kernel)
    have z2 : z ≠ Str.ofString "rows" := fun e => by subst e; exact absurd hz' (by decide +kernel)
    have z3 : z ≠ Str.ofString "told" := fun e => by subst e; exact absurd hz' (by decide +kernel)
    simp only [if_neg z1, if_neg z2, if_neg z3, hz', Bool.false_eq_true, if_false]
  k_steps
  · (rename News _ _ _ _ => N7)
    (rename Fr _ _ _ _ => F7)
    have ho0 : oddN v.bs v.n i = 0 := by have : ((oddN v.bs v.n i : Nat) : Int) = 0 := by assumption
                                         omega
    replace N7 := sub_news (news' := (77, tabObj ps') :: rest1) N7 (fun q hq => List.mem_cons_of_mem _ hq)
    refine comp_eval F7 (by with_unfolding_all rfl) (by decide) (by rfl) (by decide) (by rfl) ?_
    k_steps
    unfold Halt
    have hlm : (lr, listOf (rs.map (fun r : Rw => Value.ref r.x)).toArray kr) ∈ (77, tabObj ps') :: rest1 := U1 mlr
    refine ⟨_, _, _, _, StrJ (rest1) ((tabC v.bs v.n i).map joinC), F7, N7, ?_, src_list rfl F7 N7 hlm, hlm, ⟨hbare, ⟨ps', hps', rfl⟩, .nil⟩, CTurn.plain ?_, ?_⟩
    · rw [List.length_map, sizeLine_eq]; omega
    · rintro j ys nw vv I2 oI2 C oC D m₂ h8 tk8 g8 E' hj hyl ⟨hb8, ⟨ps3, hp3, rfl⟩, hys⟩ hS hv hoC hm2 F8 N8 off8 ne8 lt8
      rw [List.length_map] at hj
      obtain ⟨r1, hr1⟩ : ∃ r, rs[j]? = some r := ⟨_, List.getElem?_eq_getElem hj⟩
      have hr1m := List.mem_of_getElem? hr1
      rw [List.getElem?_map, hr1] at hv
      cases hv
      dsimp only at hm2
      k_steps
      have o77 := off8 (77, tabObj ps3) List.mem_cons_self
      have hsm := rows_small hn1.2 hcont r1 hr1m
      refine str_row w noProg loose mean mg mb (r := r1) (ps := ps3) (rest := (I2, oI2) :: (C, oC) :: (D, LCg.lst ys) :: rest1) B' F8 X' (sub_news N8 ?_) T' hb8 rfl (by decide) (by decide) hp3 (fun q hq => U3 (mrs q (mem_rowsLed.mpr ⟨r1, hr1m, hq⟩))) ?_ hsm.2 (by omega) ?_
      · exact Sub.pick [3, 0, 1, 2] 4 rfl
      · exact List.forall_mem_cons.mpr ⟨o77.1.symm, List.forall_mem_cons.mpr ⟨o77.2.1.symm, List.forall_mem_cons.mpr ⟨o77.2.2.symm, q77⟩⟩⟩
      intro ps4 h9 tk9 g9 t9 hp4 hb9 F9 N9
      k_steps
      unfold Halt
      refine CEnd.intro F9 N9 ((77, tabObj ps4) :: rest1) ?_ ?_ (U1 mlr) ⟨hb9, ⟨ps4, hp4, rfl⟩, ?_⟩
      · exact Sub.pick [1, 2, 3, 0] 4 rfl
      · exact List.forall_mem_cons.mpr ⟨o77, fun p hp => off8 p (List.mem_cons_of_mem _ hp)⟩
      · have ec : (tabC v.bs v.n i)[j]? = some r1.cont := by rw [← hcont, List.getElem?_map, hr1]; rfl
        rw [List.take_succ, List.getElem?_map, ec]
        exact strs_snoc hys _ _
    · rintro D h8 tk8 g8 ys nw F8 N8 off8 lt8 ⟨hb8, ⟨ps3, hp3, rfl⟩, hys⟩ hS
      have el1 : (rs.map (fun r : Rw => Value.ref r.x)).length = ((tabC v.bs v.n i).map joinC).length := by rw [List.length_map, List.length_map, ← hcont, List.length_map]
      rw [el1, List.take_length, rows_join hz] at hys
      k_steps
      unfold Halt
      have lD : v.lev < D := lt8 (v.lev, listOf (elRefs el).toArray kev) (List.mem_cons_of_mem _ mlev)
      have hel1 := el_len hel
      have lDI : D ≠ I := Nat.ne_of_gt (lt8 _ (List.mem_cons_of_mem _ mI))
      refine app_at (n := kev) ((D, LCg.lst ys) :: (77, tabObj ps3) :: (I, oI) :: (v.lme, listOf mes.toArray kme) :: (v.L + 3, oc) :: (70, tabObj ps) :: (elLed el ++ v.base)) F8 N8 ?_ ?_ (by have e9 : (elRefs el).length = el.length := List.length_map _; rw [List.size_toArray, e9, sizeLine_eq]; omega) fun h9 F9 N9 => ?_
      · exact Sub.cons (List.mem_cons_of_mem _ (List.mem_cons_of_mem _ mlev)) (Sub.cons List.mem_cons_self (Sub.cons (List.mem_cons_of_mem _ List.mem_cons_self) fun q hq => List.mem_cons_of_mem _ (List.mem_cons_of_mem _ (nolev q hq))))
      · have lL : v.L + 3 < v.lev := Nat.lt_trans b3 b4
        exact all_cons (Nat.ne_of_gt lD) (all_cons (g1 _ (Nat.le_of_lt lL)).2.symm (all_cons (Nat.ne_of_gt ltI) (all_cons (Nat.ne_of_lt b4) (all_cons (Nat.ne_of_lt lL) (all_cons (g1 _ (Nat.le_of_lt lL)).1.symm (all_app (el_all (P := fun a => a ≠ v.lev) fun e he => Nat.ne_of_gt (hel.above e he)) fun p hp => Nat.ne_of_lt (Nat.lt_trans (V.lo3 p hp).2.2.2 b4)))))))
      rw [List.push_toArray] at N9
      k_steps
      refine hret _ _ _ _ (ledE v mes kme (el ++ [(D, ys, ys.length, rowsC v.bs v.n i)]) (kev + 1) oc ps ps3) F9 (sub_news N9 ?_) ?_ ⟨hb8, t, mes, kme, el ++ [(D, ys, ys.length, rowsC v.bs v.n i)], kev + 1, oc, ps, ps3, hjm _ _, rfl, ⟨_, hoc⟩, hps, hp3, hmes, ?_, ?_, ?_⟩
      · have eR : elRefs (el ++ [(D, ys, ys.length, rowsC v.bs v.n i)]) = elRefs el ++ [Value.ref D] := List.map_append
        show Sub ((I, oI) :: (v.lev, listOf (elRefs (el ++ [(D, ys, ys.length, rowsC v.bs v.n i)])).toArray (kev + 1)) :: (v.lme, listOf mes.toArray kme) :: (v.L + 3, oc) :: (70, tabObj ps) :: (77, tabObj ps3) :: (elLed (el ++ [(D, ys, ys.length, rowsC v.bs v.n i)]) ++ v.base)) _
        rw [eR]
        exact Sub.cons M3 (Sub.cons M0 (Sub.cons M4 (Sub.cons M5 (Sub.cons M6 (Sub.cons M2 (Sub.both (el_snoc (fun q hq => U7 (List.mem_append_left _ hq)) M1) fun q hq => U7 (List.mem_append_right _ hq)))))))
      · have oI3 := led_off offI (mes2 := mes) (k2 := kme) (kev2 := kev) (oc2 := oc) (ps2 := ps) (ps3 := ps3)
        exact all_cons (show v.lev ≠ I from oI3 _ led_lev) (all_cons (show v.lme ≠ I from oI3 _ led_lme) (all_cons (oI3 _ led_L3) (all_cons (oI3 _ led_70) (all_cons (oI3 _ led_77) (all_app (all_sub (el_snoc (el := el) (e := (D, ys, ys.length, rowsC v.bs v.n i)) (A := (D, LCg.lst ys) :: elLed el) (Sub.tail (Sub.self _)) List.mem_cons_self) (all_cons lDI fun p hp => oI3 p (led_el p hp))) fun p hp => oI3 p (led_base p hp))))))
      · rw [List.map_append, hel.eqn, even_s, hev, ho0]; rfl
      · intro e he
        rcases List.mem_append.mp he with he | he
        · exact hel.sts e he
        · rw [List.mem_singleton.mp he]; exact hys
      · intro e he
        rcases List.mem_append.mp he with he | he
        · exact hel.above e he
        · rw [List.mem_singleton.mp he]; exact lD
  · (rename News _ _ _ _ => Nx)
    (rename Fr _ _ _ _ => Fx)
    have h0 : oddN v.bs v.n i ≠ 0 := by have : ((oddN v.bs v.n i : Nat) : Int) ≠ 0 := by assumption
                                        omega
    refine hret _ _ _ _ (ledE v mes kme el kev oc ps ps') Fx (sub_news Nx ?_) offI ⟨hbare, t, mes, kme, el, kev, oc, ps, ps', hjm _ _, rfl, ⟨_, hoc⟩, hps, hps', hmes, ?_⟩
    · exact fun q hq => List.mem_cons_of_mem _ (hback ps' q hq)
    · have e : evenL v.bs v.n (i + 1) = evenL v.bs v.n i := by rw [even_s, hev, beq_false_of_ne h0]; simp
      rw [e]; exact hel
end Mine

-- LawT3
theorem Mine.gap_LawT3 : True ∧ True := by w_top off; walk1 <;> trivial
namespace Mine
open PySem PySem.W PySem.Calls PyProof.Rows
set_option maxRecDepth 100000

local macro_rules | `(tactic| walk_at "call ref") => `(tactic| ((with_reducible show wpAny _ _ (call (Value.ref _) _ _) _ _ _); refine Halt.of ?_))
local macro_rules | `(tactic| walk_at "call builtin:list.append") => `(tactic| ((with_reducible show wpAny _ _ (call (Value.builtin "list.append") _) _ _ _); refine Halt.of ?_))
local macro_rules | `(tactic| walk_at "compareOp Eq ref ref") => `(tactic| ((with_reducible show wpAny _ _ (compareOp CmpOp.Eq (Value.ref _) (Value.ref _)) _ _ _); refine Halt.of ?_))
local macro_rules | `(tactic| walk_at "execs cons") => `(tactic| ((with_reducible show wpAny _ _ (execs (Stmt.If (Expr.Compare (Expr.Name (Str.ofString "odd") _) _ _ _) _ _ _ :: _) _) _ _ _); refine Halt.of ?_))
theorem kf_start18 (w : World) : PySem.Challenge.rw_zd0009_01 = PySem.Challenge.rw_zd0009_01 → findIn (hd.heap_1 w.params) (.ref 107) "__getattr__" = some none := by k_fill; intro _; k_is
set_option maxHeartbeats 1000000 in
theorem law_t3 (w : World) (ht4 : PartT4 w) : PartT3 w := by
  intro loose mean mg mb H v s h tk g Q E i I oI m₁ tt t ti to mes kme el kev oc ps ps' lr rs kr ctx V hbare hi hev hoc hps hps' hmes hel hm hrok hcont F N offI ltI rq lrl hret
  intro occ pm cd doc od osl name params scope before rest bb brest orelse tgt it pos hbl hbb ho
  generalize hw : before ++ Stmt.For tgt it (bb ++ brest) orelse pos :: rest = whole at ho
  cases ho
  have hr := List.drop_left' (l₂ := Stmt.For tgt it (bb ++ brest) orelse pos :: rest) hbl
  rw [hw] at hr
  clear hw hbl
  simp only [List.drop_succ_cons, List.drop_zero, List.cons.injEq, Stmt.For.injEq] at hr
  obtain ⟨⟨e1, e2, hr, e4, e5⟩, e6⟩ := hr
  have hr2 := List.drop_left' (l₂ := brest) hbb
  rw [← hr] at hr2
  clear hr hbb e1 e2 e4 e5 e6
  simp only [List.drop_succ_cons, List.drop_zero] at hr2
  subst hr2
  have kMark : KstMark := kstMark
  have B' := below_caller H
  have X' := ctx.X
  have T' := ctx.T
  have hz := V.hz
  have hn5 : v.n = 3 ∨ v.n = 5 := sz3 hz
  have hn1 : 1 ≤ v.n ∧ v.n ≤ 5 := by omega
  have h32 : 2 ^ v.n ≤ 32 := by rcases hn5 with h | h <;> rw [h] <;> decide
  have bi : (i : Int) < 32 := by omega
  have l70 := ctx.l70
  have l77 := ctx.l77
  have b3 := V.lme3
  have b4 := V.lml
  have hlen := rows_len hcont
  rw [off_l hm] at F
  have g1 : ∀ a : Nat, v.L + 3 ≤ a → a ≠ 70 ∧ a ≠ 77 := fun a ha => ⟨Nat.ne_of_gt (Nat.lt_of_lt_of_le l70 (Nat.le_trans (Nat.le_add_right _ _) ha)), Nat.ne_of_gt (Nat.lt_of_lt_of_le l77 (Nat.le_trans (Nat.le_add_right _ _) ha))⟩
  have q77 : ∀ p ∈ (lr, listOf (rs.map (fun r : Rw => Value.ref r.x)).toArray kr) :: (rowsLed rs ++ ((I, oI) :: (v.lev, listOf (elRefs el).toArray kev) :: (v.lme, listOf mes.toArray kme) :: (v.L + 3, oc) :: (70, tabObj ps) :: (elLed el ++ v.base))), p.1 ≠ 77 :=
    all_cons (g1 lr (Nat.le_of_lt (Nat.lt_trans b3 (Nat.lt_trans b4 lrl)))).2 (all_app (fun p hp => (rq p hp).2.1) (all_cons (g1 I (Nat.le_of_lt (Nat.lt_trans b3 (Nat.lt_trans b4 ltI)))).2 (all_cons (g1 v.lev (Nat.le_of_lt (Nat.lt_trans b3 b4))).2 (all_cons (g1 v.lme (Nat.le_of_lt b3)).2 (all_cons (g1 _ (Nat.le_refl _)).2 (all_cons (by show (70 : Nat) ≠ 77; decide) (all_app (el_all (P := fun a => a ≠ 77) fun e he => (g1 e.1 (Nat.le_of_lt (Nat.lt_trans b3 (Nat.lt_trans b4 (hel.above e he))))).2) fun p hp => (V.lo3 p hp).2.1)))))))
  have mrs : ∀ q ∈ rowsLed rs, q ∈ (lr, listOf (rs.map (fun r : Rw => Value.ref r.x)).toArray kr) :: (rowsLed rs ++ ((I, oI) :: (v.lev, listOf (elRefs el).toArray kev) :: (v.lme, listOf mes.toArray kme) :: (v.L + 3, oc) :: (70, tabObj ps) :: (elLed el ++ v.base))) := fun q hq => List.mem_cons_of_mem _ (List.mem_append_left _ hq)
  have hback : ∀ (ps3 : Array Value), ∀ q ∈ (lr, listOf (rs.map (fun r : Rw => Value.ref r.x)).toArray kr) :: (rowsLed rs ++ ((I, oI) :: ledE v mes kme el kev oc ps ps3)), q ∈ (77, tabObj ps3) :: (lr, listOf (rs.map (fun r : Rw => Value.ref r.x)).toArray kr) :: (rowsLed rs ++ ((I, oI) :: (v.lev, listOf (elRefs el).toArray kev) :: (v.lme, listOf mes.toArray kme) :: (v.L + 3, oc) :: (70, tabObj ps) :: (elLed el ++ v.base))) := by
    intro ps3
    exact Sub.cons M1 (Sub.both (Sub.tail (Sub.tail Sub.left)) (Sub.cons (mid2 M0) (led_in (mid2 M1) (mid2 M2) (mid2 M3) (mid2 M4) M0 fun q hq => mid2 (U5 hq))))
  have offI' : ∀ (mes2 : List Value) (k2 : Nat) (ps2 ps3 : Array Value), ∀ p ∈ ledE v mes2 k2 el kev oc ps2 ps3, p.1 ≠ I := fun _ _ _ _ => led_off offI
  obtain ⟨kai, mai0⟩ := V.mai
  replace N := sub_news (news' := (77, tabObj ps') :: (lr, listOf (rs.map (fun r : Rw => Value.ref r.x)).toArray kr) :: (rowsLed rs ++ ((I, oI) :: (v.lev, listOf (elRefs el).toArray kev) :: (v.lme, listOf mes.toArray kme) :: (v.L + 3, oc) :: (70, tabObj ps) :: (elLed el ++ v.base)))) N (Sub.cons (mid (U1 led_77)) (Sub.cons M0 (Sub.tail (Sub.app (Sub.pick [0, 1, 2, 3, 4] 6 rfl)))))
  have mlr : (lr, listOf (rs.map (fun r : Rw => Value.ref r.x)).toArray kr) ∈ (lr, listOf (rs.map (fun r : Rw => Value.ref r.x)).toArray kr) :: (rowsLed rs ++ ((I, oI) :: (v.lev, listOf (elRefs el).toArray kev) :: (v.lme, listOf mes.toArray kme) :: (v.L + 3, oc) :: (70, tabObj ps) :: (elLed el ++ v.base))) := List.mem_cons_self
  have mlme : (v.lme, listOf mes.toArray kme) ∈ (lr, listOf (rs.map (fun r : Rw => Value.ref r.x)).toArray kr) :: (rowsLed rs ++ ((I, oI) :: (v.lev, listOf (elRefs el).toArray kev) :: (v.lme, listOf mes.toArray kme) :: (v.L + 3, oc) :: (70, tabObj ps) :: (elLed el ++ v.base))) := mid M2
  have mL3 : (v.L + 3, oc) ∈ (lr, listOf (rs.map (fun r : Rw => Value.ref r.x)).toArray kr) :: (rowsLed rs ++ ((I, oI) :: (v.lev, listOf (elRefs el).toArray kev) :: (v.lme, listOf mes.toArray kme) :: (v.L + 3, oc) :: (70, tabObj ps) :: (elLed el ++ v.base))) := mid M3
  have mai : (v.lai, listOf v.ais.toArray kai) ∈ (lr, listOf (rs.map (fun r : Rw => Value.ref r.x)).toArray kr) :: (rowsLed rs ++ ((I, oI) :: (v.lev, listOf (elRefs el).toArray kev) :: (v.lme, listOf mes.toArray kme) :: (v.L + 3, oc) :: (70, tabObj ps) :: (elLed el ++ v.base))) := List.mem_cons_of_mem _ (List.mem_append_right _ (List.mem_cons_of_mem _ (List.mem_cons_of_mem _ (List.mem_cons_of_mem _ (List.mem_cons_of_mem _ (List.mem_cons_of_mem _ (List.mem_append_right _ mai0)))))))
  have nome : Sub ((lr, listOf (rs.map (fun r : Rw => Value.ref r.x)).toArray kr) :: (rowsLed rs ++ ((I, oI) :: (v.lev, listOf (elRefs el).toArray kev) :: (v.L + 3, oc) :: (70, tabObj ps) :: (elLed el ++ v.base)))) ((lr, listOf (rs.map (fun r : Rw => Value.ref r.x)).toArray kr) :: (rowsLed rs ++ ((I, oI) :: (v.lev, listOf (elRefs el).toArray kev) :: (v.lme, listOf mes.toArray kme) :: (v.L + 3, oc) :: (70, tabObj ps) :: (elLed el ++ v.base)))) := Sub.cons M0 (Sub.tail (Sub.app (Sub.pick [0, 1, 3, 4] 5 rfl)))
  generalize (lr, listOf (rs.map (fun r : Rw => Value.ref r.x)).toArray kr) :: (rowsLed rs ++ ((I, oI) :: (v.lev, listOf (elRefs el).toArray kev) :: (v.lme, listOf mes.toArray kme) :: (v.L + 3, oc) :: (70, tabObj ps) :: (elLed el ++ v.base))) = rest1 at q77 mrs N hback mlr mlme mL3 mai nome
  k_steps
  · (rename News _ _ _ _ => N7)
    (rename Fr _ _ _ _ => F7)
    have how : oddN v.bs v.n i = v.wm := by have : ((oddN v.bs v.n i : Nat) : Int) = (v.wm : Int) := by assumption
                                            omega
    unfold Halt
    refine comp_eval F7 (by with_unfolding_all rfl) (by decide) (by rfl) (by decide) (by rfl) ?_
    k_steps
    unfold Halt
    have hlm : (lr, listOf (rs.map (fun r : Rw => Value.ref r.x)).toArray kr) ∈ (77, tabObj ps') :: rest1 := U1 mlr
    refine ⟨_, _, _, _, StrJ (rest1) ((tabC v.bs v.n i).map joinC), F7, N7, ?_, src_list rfl F7 N7 hlm, hlm, ⟨hbare, ⟨ps', hps', rfl⟩, .nil⟩, CTurn.plain ?_, ?_⟩
    · rw [List.length_map, sizeLine_eq]; omega
    · rintro j ys nw vv I2 oI2 C oC D m₂ h8 tk8 g8 E' hj hyl ⟨hb8, ⟨ps3, hp3, rfl⟩, hys⟩ hS hv hoC hm2 F8 N8 off8 ne8 lt8
      rw [List.length_map] at hj
      obtain ⟨r1, hr1⟩ : ∃ r, rs[j]? = some r := ⟨_, List.getElem?_eq_getElem hj⟩
      have hr1m := List.mem_of_getElem? hr1
      rw [List.getElem?_map, hr1] at hv
      cases hv
      dsimp only at hm2
      k_steps
      have o77 := off8 (77, tabObj ps3) List.mem_cons_self
      have hsm := rows_small hn1.2 hcont r1 hr1m
      refine str_row w noProg loose mean mg mb (r := r1) (ps := ps3) (rest := (I2, oI2) :: (C, oC) :: (D, LCg.lst ys) :: rest1) B' F8 X' (sub_news N8 ?_) T' hb8 rfl (by decide) (by decide) hp3 (fun q hq => U3 (mrs q (mem_rowsLed.mpr ⟨r1, hr1m, hq⟩))) ?_ hsm.2 (by omega) ?_
      · exact Sub.pick [3, 0, 1, 2] 4 rfl
      · exact List.forall_mem_cons.mpr ⟨o77.1.symm, List.forall_mem_cons.mpr ⟨o77.2.1.symm, List.forall_mem_cons.mpr ⟨o77.2.2.symm, q77⟩⟩⟩
      intro ps4 h9 tk9 g9 t9 hp4 hb9 F9 N9
      k_steps
      unfold Halt
      refine CEnd.intro F9 N9 ((77, tabObj ps4) :: rest1) ?_ ?_ (U1 mlr) ⟨hb9, ⟨ps4, hp4, rfl⟩, ?_⟩
      · exact Sub.pick [1, 2, 3, 0] 4 rfl
      · exact List.forall_mem_cons.mpr ⟨o77, fun p hp => off8 p (List.mem_cons_of_mem _ hp)⟩
      · have ec : (tabC v.bs v.n i)[j]? = some r1.cont := by rw [← hcont, List.getElem?_map, hr1]; rfl
        rw [List.take_succ, List.getElem?_map, ec]
        exact strs_snoc hys _ _
    · rintro D h8 tk8 g8 ys nw F8 N8 off8 lt8 ⟨hb8, ⟨ps3, hp3, rfl⟩, hys⟩ hS
      have el1 : (rs.map (fun r : Rw => Value.ref r.x)).length = ((tabC v.bs v.n i).map joinC).length := by rw [List.length_map, List.length_map, ← hcont, List.length_map]
      rw [el1, List.take_length, rows_join hz] at hys
      replace N8 := sub_news (news' := (v.lme, listOf mes.toArray kme) :: (v.L + 3, oc) :: (D, LCg.lst ys) :: (77, tabObj ps3) :: rest1) N8 (Sub.cons (U2 mlme) (Sub.cons (U2 mL3) (Sub.self _)))
      k_steps
      unfold Halt
      refine eq_strs (News.isList N8 (List.mem_cons_of_mem _ (List.mem_cons_of_mem _ List.mem_cons_self))) (News.isList N8 (List.mem_cons_of_mem _ (List.mem_cons_of_mem _ (List.mem_cons_of_mem _ (List.mem_cons_of_mem _ mai))))) hys V.hai (rowsC_ok hn1.2) (rowsS_ok hn1.2) (by (first | decide | ktr_units)) ?_
      k_steps
      · unfold Halt
        have hrr : rowsC v.bs v.n i = rowsS v.ds v.n := by assumption
        have lmt : mes.length ≤ i := by
          rw [IntsAre.length hmes, List.length_map]
          unfold metL
          exact Nat.le_trans (List.length_filter_le _ _) (by rw [List.length_range]; exact Nat.le_refl _)
        have lL : v.L + 3 < v.lme := b3
        refine app_at (its := mes.toArray) (n := kme) ((77, tabObj ps3) :: (lr, listOf (rs.map (fun r : Rw => Value.ref r.x)).toArray kr) :: (rowsLed rs ++ ((I, oI) :: (v.lev, listOf (elRefs el).toArray kev) :: (v.L + 3, oc) :: (70, tabObj ps) :: (elLed el ++ v.base)))) F8 N8 ?_ ?_ (by rw [List.size_toArray, sizeLine_eq]; omega) fun h9 F9 N9 => ?_
        · exact Sub.cons List.mem_cons_self (Sub.cons M3 fun q hq => List.mem_cons_of_mem _ (List.mem_cons_of_mem _ (List.mem_cons_of_mem _ (List.mem_cons_of_mem _ (nome q hq)))))
        · exact all_cons (g1 _ (Nat.le_of_lt lL)).2.symm (all_cons (Nat.ne_of_gt (Nat.lt_trans b4 lrl)) (all_app (fun p hp => (rq p hp).2.2.1) (all_cons (Nat.ne_of_gt (Nat.lt_trans b4 ltI)) (all_cons (Nat.ne_of_gt b4) (all_cons (Nat.ne_of_lt lL) (all_cons (g1 _ (Nat.le_of_lt lL)).1.symm (all_app (el_all (P := fun a => a ≠ v.lme) fun e he => Nat.ne_of_gt (Nat.lt_trans b4 (hel.above e he))) fun p hp => Nat.ne_of_lt (V.lo3 p hp).2.2.2)))))))
        rw [List.push_toArray] at N9
        k_steps
        unfold Halt
        (rename News _ _ _ _ => Nx)
        (rename Fr _ _ _ _ => Fx)
        refine' ht4 _ _ _ _ H v s _ _ _ _ _ i I oI (fun z => if lvars.contains z = true then m₁ z else v.mE (begI v (i + 1)) t z) _ t _ _ (mes ++ [.int (i : Int) ti]) (kme + 1) el kev oc ps ps3 lr rs kr ctx V hb8 hi hev hoc hps hp3 ?hmes hel ?hm hrok hcont Fx (sub_news Nx ?ks) ?of ltI rq lrl ?te _ _ _ _ _ _ _ _ _ [_, _, _, _, _, _, _, _, _, _, _, _, _, _, _, _, _, _, _, _] _ [_, _, _, _, _, _, _, _] _ _ _ _ _ rfl rfl ?kho
        case kho => exact rfl
        case te => exact hret
        case hm => exact fun z hz' => if_neg (by rw [hz']; exact Bool.false_ne_true)
        case of => exact offI' _ _ _ _
        case hmes => rw [met_s, hev, ← V.hwm, how, hrr]; simpa using hmes.append (.cons _ _ .nil)
        case ks => exact Sub.cons M2 (Sub.both (Sub.tail (Sub.tail (Sub.tail Sub.left))) (Sub.cons (mid3 M0) (led_in (mid3 M1) M0 (mid3 M2) (mid3 M3) M1 fun q hq => mid3 (U4 hq))))
      · unfold Halt
        have hrr : ¬ rowsC v.bs v.n i = rowsS v.ds v.n := by assumption
        (rename News _ _ _ _ => Nx)
        (rename Fr _ _ _ _ => Fx)
        refine' ht4 _ _ _ _ H v s _ _ _ _ _ i I oI (fun z => if lvars.contains z = true then m₁ z else v.mE (begI v (i + 1)) t z) _ t _ _ mes kme el kev oc ps ps3 lr rs kr ctx V hb8 hi hev hoc hps hp3 ?hmes hel ?hm hrok hcont Fx (sub_news Nx ?ks) ?of ltI rq lrl ?te _ _ _ _ _ _ _ _ _ [_, _, _, _, _, _, _, _, _, _, _, _, _, _, _, _, _, _, _, _] _ [_, _, _, _, _, _, _, _] _ _ _ _ _ rfl rfl ?kho
        case kho => exact rfl
        case te => exact hret
        case hm => exact fun z hz' => if_neg (by rw [hz']; exact Bool.false_ne_true)
        case of => exact offI' _ _ _ _
        case hmes => rw [met_s, hev, ← V.hwm, how, beq_false_of_ne hrr]; simpa using hmes
        case ks => exact fun q hq => List.mem_cons_of_mem _ (List.mem_cons_of_mem _ (List.mem_cons_of_mem _ (hback ps3 q hq)))
  · (rename News _ _ _ _ => Nx)
    (rename Fr _ _ _ _ => Fx)
    have how : oddN v.bs v.n i ≠ v.wm := by have : ((oddN v.bs v.n i : Nat) : Int) ≠ (v.wm : Int) := by assumption
                                            omega
    unfold Halt
    refine' ht4 _ _ _ _ H v s _ _ _ _ _ i I oI (fun z => if lvars.contains z = true then m₁ z else v.mE (begI v (i + 1)) t z) _ t _ _ mes kme el kev oc ps ps' lr rs kr ctx V hbare hi hev hoc hps hps' ?hmes hel ?hm hrok hcont Fx (sub_news Nx ?ks) ?of ltI rq lrl ?te _ _ _ _ _ _ _ _ _ [_, _, _, _, _, _, _, _, _, _, _, _, _, _, _, _, _, _, _, _] _ [_, _, _, _, _, _, _, _] _ _ _ _ _ rfl rfl ?kho
    case kho => exact rfl
    case te => exact hret
    case hm => exact fun z hz' => if_neg (by rw [hz']; exact Bool.false_ne_true)
    case of => exact offI' _ _ _ _
    case hmes => rw [met_s, hev, ← V.hwm, beq_false_of_ne how]; simpa using hmes
    case ks => exact fun q hq => hback ps' q hq
end Mine

-- LawF
theorem Mine.gap_LawF : True ∧ True := by w_top off; walk1 <;> trivial
namespace Mine
open PySem PySem.W PySem.Calls PyProof.Rows
set_option maxRecDepth 100000

local macro_rules | `(tactic| walk_at "call ref") => `(tactic| ((with_reducible show wpAny _ _ (call (Value.ref _) _ _) _ _ _); refine Halt.of ?_))
local macro_rules | `(tactic| walk_at "compareOp NotEq ref ref") => `(tactic| ((with_reducible show wpAny _ _ (compareOp CmpOp.NotEq (Value.ref _) (Value.ref _)) _ _ _); refine Halt.of ?_))
local macro_rules | `(tactic| walk_at "compareOp Eq ref ref") => `(tactic| ((with_reducible show wpAny _ _ (compareOp CmpOp.Eq (Value.ref _) (Value.ref _)) _ _ _); refine Halt.of ?_))
theorem kf_start19 (w : World) : PySem.Challenge.rw_zd0009_01 = PySem.Challenge.rw_zd0009_01 → findIn (hd.heap_1 w.params) (.ref 107) "__getattr__" = some none := by k_fill; intro _; k_is
theorem reads_els {h : Heap} : ∀ {el : List El}, (∀ e ∈ el, h.IsList e.1 e.2.1.toArray ∧ StrsAre e.2.1 e.2.2.2) → ReadsAll h (elRefs el) ((el.map (·.2.2.2)).map strD) (el.map (·.1))
  | [], _ => .nil
  | e :: r, hh => by
    have a := hh e List.mem_cons_self
    have := ReadsAll.cons (reads_strD a.1 a.2) (reads_els (el := r) fun x hx => hh x (List.mem_cons_of_mem _ hx))
    exact this
theorem reads_strsD {h : Heap} {a : Addr} {el : List El} {k : Nat} (ho : h.get? a = some (listOf (elRefs el).toArray k)) (hh : ∀ e ∈ el, h.IsList e.1 e.2.1.toArray ∧ StrsAre e.2.1 e.2.2.2) : Reads h (.ref a) (strsD (el.map (·.2.2.2))) (a :: el.map (·.1)) :=
  .list ho rfl rfl (reads_els hh)
structure FJ (rest : List (Addr × Obj)) (l : List (List Str)) (j : Nat) (ys : List Value) (nw : List (Addr × Obj)) (g : Array GenState) : Prop where
  bare : AllBare g
  ex : ∃ (ps : Array Value) (el : List El), TriplesOk ps.toList ∧ nw = (77, tabObj ps) :: (elLed el ++ rest) ∧ ys = elRefs el ∧ el.map (·.2.2.2) = l.take j ∧ ∀ e ∈ el, StrsAre e.2.1 e.2.2.2 ∧ e.1 ≠ 77
set_option maxHeartbeats 1000000 in
theorem law_f (w : World) : PartF w := by
  intro loose mean mg mb H v s h tk g Q E m₁ nw ctx V hJ F N hret
  obtain ⟨hbare, t, mes, kme, el, kev, oc, ps, ps', hm, rfl, ⟨x3, hoc⟩, hps, hps', hmes, hel⟩ := hJ
  intro occ pm cd doc od osl name params scope before rest hbl ho
  generalize hw : before ++ rest = whole at ho
  cases ho
  have hr := List.drop_left' (l₂ := rest) hbl
  rw [hw] at hr
  clear hw hbl
  simp only [List.drop_succ_cons, List.drop_zero] at hr
  subst hr
  have kMark : KstMark := kstMark
  have B' := below_caller H
  have X' := ctx.X
  have T' := ctx.T
  have hz := V.hz
  have hn5 : v.n = 3 ∨ v.n = 5 := sz3 hz
  have hn1 : 1 ≤ v.n ∧ v.n ≤ 5 := by omega
  have hzd : Sz v.ds.length v.n := by rw [V.hds]; exact hz
  have hsh := V.hsh
  have bsh : (v.sh : Int) < 28 := by omega
  have h32 : 2 ^ v.n ≤ 32 := by rcases hn5 with h | h <;> rw [h] <;> decide
  have hwl : v.wm < 2 ^ v.n := by rw [V.hwm]; exact oddN_lt _ _ _
  have bw : (v.wm : Int) < 32 := by omega
  have l70 := ctx.l70
  have l77 := ctx.l77
  have b3 := V.lme3
  have b4 := V.lml
  have cd2 := V.cd2
  have hp0 : 0 < 2 ^ v.n := Nat.two_pow_pos _
  have hbeg : begI v (2 ^ v.n) = (oddN v.bs v.n 0 : Int) := by unfold begI; rw [if_neg (by omega)]
  rw [off_l hm, hbeg] at F
  have g1 : ∀ a : Nat, v.L + 2 ≤ a → a ≠ 70 ∧ a ≠ 77 := fun a ha => ⟨Nat.ne_of_gt (Nat.lt_of_lt_of_le l70 (Nat.le_trans (Nat.le_add_right _ _) ha)), Nat.ne_of_gt (Nat.lt_of_lt_of_le l77 (Nat.le_trans (Nat.le_add_right _ _) ha))⟩
  obtain ⟨ko, mo⟩ := V.mo
  obtain ⟨kf, mf⟩ := V.mf
  have r70 : ∀ p ∈ (v.lev, listOf (elRefs el).toArray kev) :: (v.lme, listOf mes.toArray kme) :: (elLed el ++ v.base), p.1 ≠ 70 ∧ p.1 ≠ 77 :=
    all_cons (g1 v.lev (Nat.le_trans (Nat.le_succ _) (Nat.le_of_lt (Nat.lt_trans b3 b4)))) (all_cons (g1 v.lme (Nat.le_trans (Nat.le_succ _) (Nat.le_of_lt b3))) (all_app (el_all (P := fun a => a ≠ 70 ∧ a ≠ 77) fun e he => g1 e.1 (Nat.le_trans (Nat.le_succ _) (Nat.le_of_lt (Nat.lt_trans b3 (Nat.lt_trans b4 (hel.above e he)))))) fun p hp => ⟨(V.lo3 p hp).1, (V.lo3 p hp).2.1⟩))
  replace N := sub_news (news' := (v.L + 2, v.co2) :: (70, tabObj ps) :: (77, tabObj ps') :: (v.lev, listOf (elRefs el).toArray kev) :: (v.lme, listOf mes.toArray kme) :: (elLed el ++ v.base)) N (Sub.cons (led_base _ V.m2) (Sub.pick [3, 4, 0, 1] 5 rfl))
  have inb : Sub v.base ((v.lev, listOf (elRefs el).toArray kev) :: (v.lme, listOf mes.toArray kme) :: (elLed el ++ v.base)) := Sub.tail (Sub.tail (Sub.right (Sub.self _)))
  have mlev : (v.lev, listOf (elRefs el).toArray kev) ∈ (v.lev, listOf (elRefs el).toArray kev) :: (v.lme, listOf mes.toArray kme) :: (elLed el ++ v.base) := List.mem_cons_self
  have mlme : (v.lme, listOf mes.toArray kme) ∈ (v.lev, listOf (elRefs el).toArray kev) :: (v.lme, listOf mes.toArray kme) :: (elLed el ++ v.base) := List.mem_cons_of_mem _ List.mem_cons_self
  have mel : Sub (elLed el) ((v.lev, listOf (elRefs el).toArray kev) :: (v.lme, listOf mes.toArray kme) :: (elLed el ++ v.base)) := fun q hq => List.mem_cons_of_mem _ (List.mem_cons_of_mem _ (List.mem_append_left _ hq))
  generalize (v.lev, listOf (elRefs el).toArray kev) :: (v.lme, listOf mes.toArray kme) :: (elLed el ++ v.base) = rest0 at N r70 inb mlev mlme mel
  k_steps
  unfold Halt
  (rename News _ _ _ _ => N1)
  (rename Fr _ _ _ _ => F1)
  have etold : ((v.wm : Int) * 2 ^ ((v.sh : Int)).toNat) = ((v.wm * 2 ^ v.sh : Nat) : Int) := by simp
  rw [etold]
  have hto := told_ok (n := v.n) (sh := v.sh) (c := v.wm) hn1.2 hsh hwl
  refine pretty_spec w noProg loose mean mg mb (v.wm * 2 ^ v.sh) _ _ hto.2.2.1 _ _ _ _ _ _ _ _ _ _ _ _ _ _ _ _ _ B' F1 X' N1 T' rfl (by decide) (by decide) ?_
  rintro r tl h2 tk2 F2 N2 ⟨rfl, t2, rfl⟩
  simp only [List.nil_append] at N2
  dsimp only
  rw [show PF (v.wm * 2 ^ v.sh) = told v.sh v.wm from rfl]
  k_steps
  unfold Halt
  refine tab_spec w noProg loose mean mg mb v.os v.fs v.lo v.lf ko kf (fls v.sh v.n) (Txt.split (told v.sh v.wm) (Str.ofString ", ")) (told v.sh v.wm) _ (pcB v.ds) V.hfs (gs_ok hzd _ V.hos) rfl hto.2.1 hto.1 (fls_ok hsh hn1.2).1 (by rw [fls_len]; omega) ((v.L + 2, v.co2) :: (70, tabObj ps) :: (77, tabObj ps') :: rest0) (U3 (inb _ mo)) (U3 (inb _ mf)) _ _ _ _ _ _ _ _ _ _ _ _ _ _ _ _ _ B' F2 X' N2 T' hbare rfl (by decide) (by decide) ?_
  rintro _ _ h3 tk3 g3 hb3 F3 N3 ⟨ll, rs, kl, rfl, rfl, hrok, hcont, lllt, hrlt⟩
  rw [told_tab hzd hsh hwl] at hcont
  have hlen := rows_len hcont
  have kindR := led_kind hrok
  k_steps
  unfold Halt
  (rename News _ _ _ _ => N4)
  (rename Fr _ _ _ _ => F4)
  have q70 : ∀ p ∈ (ll, listOf (rs.map (fun r : Rw => Value.ref r.x)).toArray kl) :: (rowsLed rs ++ ((v.L + 2, v.co2) :: rest0)), p.1 ≠ 70 ∧ p.1 ≠ 77 :=
    all_cons ⟨Nat.ne_of_gt (lllt (70, tabObj ps) (List.mem_cons_of_mem _ List.mem_cons_self)), Nat.ne_of_gt (lllt (77, tabObj ps') (List.mem_cons_of_mem _ (List.mem_cons_of_mem _ List.mem_cons_self)))⟩ (all_app (fun p hp =>
      ⟨ne_addr N4 (List.mem_cons_of_mem _ (List.mem_append_left _ hp)) (q := (70, tabObj ps)) (mid M1) ((kindR p hp).2 _), ne_addr N4 (List.mem_cons_of_mem _ (List.mem_append_left _ hp)) (q := (77, tabObj ps')) (mid M2) ((kindR p hp).2 _)⟩) (all_cons (g1 _ (Nat.le_refl _)) r70))
  replace N4 := sub_news (news' := (70, tabObj ps) :: (77, tabObj ps') :: (ll, listOf (rs.map (fun r : Rw => Value.ref r.x)).toArray kl) :: (rowsLed rs ++ ((v.L + 2, v.co2) :: rest0))) N4 (by
    have m1 : ∀ q ∈ rowsLed rs ++ (v.L + 2, v.co2) :: rest0, q ∈ (ll, listOf (rs.map (fun r : Rw => Value.ref r.x)).toArray kl) :: (rowsLed rs ++ (v.L + 2, v.co2) :: (70, tabObj ps) :: (77, tabObj ps') :: rest0) := Sub.tail (Sub.app (Sub.pick [0] 3 rfl))
    exact Sub.cons (mid M1) (Sub.cons (mid M2) (Sub.cons M0 m1)))
  have mrs : Sub (rowsLed rs) ((ll, listOf (rs.map (fun r : Rw => Value.ref r.x)).toArray kl) :: (rowsLed rs ++ ((v.L + 2, v.co2) :: rest0))) := fun q hq => List.mem_cons_of_mem _ (List.mem_append_left _ hq)
  have inr : Sub rest0 ((ll, listOf (rs.map (fun r : Rw => Value.ref r.x)).toArray kl) :: (rowsLed rs ++ ((v.L + 2, v.co2) :: rest0))) := Sub.tail (Sub.right (Sub.tail (Sub.self _)))
  have mll : (ll, listOf (rs.map (fun r : Rw => Value.ref r.x)).toArray kl) ∈ (ll, listOf (rs.map (fun r : Rw => Value.ref r.x)).toArray kl) :: (rowsLed rs ++ ((v.L + 2, v.co2) :: rest0)) := List.mem_cons_self
  generalize (ll, listOf (rs.map (fun r : Rw => Value.ref r.x)).toArray kl) :: (rowsLed rs ++ ((v.L + 2, v.co2) :: rest0)) = rest1 at N4 q70 mrs inr mll
  refine odd_spec w noProg loose mean mg mb ll rs kl ps ((77, tabObj ps') :: rest1) hps (U1 mll) (fun q hq => U1 (mrs q hq)) (List.forall_mem_cons.mpr ⟨by show (77 : Nat) ≠ 70; decide, fun p hp => (q70 p hp).1⟩) hrok (rows_small hn1.2 hcont) (by omega) _ _ _ _ _ _ _ _ _ _ _ _ _ _ _ _ _ B' F4 X' N4 T' hb3 rfl (by decide) (by decide) ?_
  rintro _ _ h6 tk6 g6 hb6 F6 N6 ⟨ps2, t6, hps2, rfl, rfl⟩
  rw [odd_cast, hcont, hlen]
  rw [show (((List.range v.n).filter (fun j => decide (lenC ((tabC v.ds v.n v.wm).getD j []) % 2 = 1))).map (fun j => 2 ^ j)).sum = oddN v.ds v.n v.wm from rfl]
  have h0 : oddN v.ds v.n v.wm = 0 := by rw [V.hwm]; exact odd_back hzd
  rw [h0]
  k_steps
  · exact absurd rfl (by assumption : ((0 : Nat) : Int) ≠ 0)
  unfold Halt
  (rename News _ _ _ _ => N7)
  (rename Fr _ _ _ _ => F7)
  refine threes_spec w noProg loose mean mg mb v.bs v.n _ _ _ hz _ _ _ _ _ _ _ _ _ _ _ _ _ _ _ _ _ B' F7 X' N7 T' rfl (by decide) (by decide) ?_
  rintro _ _ h8 tk8 F8 N8 ⟨a1, us1, k1, rfl, rfl, hu1⟩
  simp only [List.cons_append, List.nil_append] at N8
  k_steps
  unfold Halt
  refine threes_spec w noProg loose mean mg mb v.ds v.n _ _ _ hzd _ _ _ _ _ _ _ _ _ _ _ _ _ _ _ _ _ B' F8 X' N8 T' rfl (by decide) (by decide) ?_
  rintro _ _ h9 tk9 F9 N9 ⟨a2, us2, k2, rfl, rfl, hu2⟩
  simp only [List.cons_append, List.nil_append] at N9
  k_steps
  unfold Halt
  refine eq_intsK (News.isList N9 (List.mem_cons_of_mem _ List.mem_cons_self)) hu1 (News.isList N9 List.mem_cons_self) hu2 (by (first | decide | ktr_units)) ?_
  k_steps
  · have hth : threes v.bs (v.n - 2) = threes v.ds (v.n - 2) := by assumption
    obtain ⟨hmt, hevl⟩ := sem_same hz V.hds hth
    obtain ⟨kdu, mdu⟩ := V.mdu
    unfold Halt
    (rename News _ _ _ _ => Nx)
    refine eq_intsK (News.isList Nx (List.mem_cons_of_mem _ (List.mem_cons_of_mem _ (List.mem_cons_of_mem _ (List.mem_cons_of_mem _ (List.mem_cons_of_mem _ (inr _ mlme))))))) hmes (News.isList Nx List.mem_cons_self) (.cons _ _ .nil) (by (first | decide | ktr_units)) ?_
    rw [decide_eq_true (by rw [hmt, V.hwm, xor_cast (Nat.lt_of_lt_of_le (oddN_lt _ _ _) h32) (Nat.lt_of_lt_of_le (oddN_lt _ _ _) h32)]; rfl)]
    k_steps
    unfold Halt
    (rename News _ _ _ _ => Ny)
    have hh : ∀ e ∈ el, _ ∧ StrsAre e.2.1 e.2.2.2 := fun e he => ⟨News.isList Ny (List.mem_cons_of_mem _ (List.mem_cons_of_mem _ (List.mem_cons_of_mem _ (List.mem_cons_of_mem _ (List.mem_cons_of_mem _ (List.mem_cons_of_mem _ (inr _ (mel (e.1, listOf e.2.1.toArray e.2.2.1) (List.mem_map.mpr ⟨e, he, rfl⟩))))))))), hel.sts e he⟩
    refine eq_dataH (reads_strsD (Ny (v.lev, listOf (elRefs el).toArray kev) (List.mem_cons_of_mem _ (List.mem_cons_of_mem _ (List.mem_cons_of_mem _ (List.mem_cons_of_mem _ (List.mem_cons_of_mem _ (List.mem_cons_of_mem _ (inr _ mlev)))))))).1 hh) (.list (Ny _ List.mem_cons_self).1 rfl rfl (.cons (reads_strD (News.isList Ny (List.mem_cons_of_mem _ (List.mem_cons_of_mem _ (List.mem_cons_of_mem _ (List.mem_cons_of_mem _ (List.mem_cons_of_mem _ (List.mem_cons_of_mem _ (inr _ (inb _ mdu))))))))) V.hdu) .nil)) ?_ ?_ (by (first | decide | ktr_units)) ?_
    · rw [hel.eqn, hevl]
      exact shaped_strss fun x hx => by rw [List.mem_singleton.mp hx]; exact rowsS_ok hn1.2
    · exact shaped_strss (ns := [rowsS (turned v.ds v.n (v.wm : Int) (v.bs.length : Int)) v.n]) fun x hx => by rw [List.mem_singleton.mp hx]; exact rowsS_ok hn1.2
    · have e1 : PyData.eqv (strsD (el.map (·.2.2.2))) (strsD [rowsS (turned v.ds v.n (v.wm : Int) (v.bs.length : Int)) v.n]) = true := by
        rw [eqv_strsD, hel.eqn, hevl, V.hwm]
        exact decide_eq_true rfl
      have e2 : PyData.eqv (strsD (el.map (·.2.2.2))) (.list [strD (rowsS (turned v.ds v.n (v.wm : Int) (v.bs.length : Int)) v.n)]) = true := e1
      (rename Fr _ _ _ _ => Fx)
      have fin : ∀ (s9 : Shared) b, b = true → Q (Flow.ret (Value.bool true)) s9 → Q (Flow.ret (Value.bool b)) s9 := fun s9 b hb hq => hb ▸ hq
      refine fin _ _ e2 (hret _ _ _ _ ps2 ps' hb6 Fx (sub_news Ny ?_))
      exact Sub.cons M4 (Sub.cons M5 Sub.nil)
  · have hth : ¬ threes v.bs (v.n - 2) = threes v.ds (v.n - 2) := by assumption
    obtain ⟨hmt, hevl⟩ := sem_diff hz V.hds hth
    unfold Halt
    (rename News _ _ _ _ => N10)
    (rename Fr _ _ _ _ => F10)
    obtain ⟨kgo, mgo⟩ := V.mgo
    obtain ⟨kai, mai⟩ := V.mai
    obtain ⟨kdu, mdu⟩ := V.mdu
    refine comp_assign F10 (by rfl) (by with_unfolding_all rfl) (by with_unfolding_all rfl) (by decide) (by rfl) (by decide) (by rfl) (by rfl) (by rfl) ?_
    k_steps
    unfold Halt
    (rename News _ _ _ _ => N11)
    (rename Fr _ _ _ _ => F11)
    rename_i lx hx lxlt
    have q77 : ∀ p ∈ (lx, listOf [Value.ref v.lgo, Value.ref ll].toArray 0) :: (70, tabObj ps2) :: rest1, p.1 ≠ 77 := List.forall_mem_cons.mpr ⟨Nat.ne_of_gt lxlt.2.2.2.1, List.forall_mem_cons.mpr ⟨by show (70 : Nat) ≠ 77; decide, fun p hp => (q70 p hp).2⟩⟩
    replace N11 := sub_news (news' := (77, tabObj ps') :: (lx, listOf [Value.ref v.lgo, Value.ref ll].toArray 0) :: (70, tabObj ps2) :: rest1) N11 (Sub.pick [4, 0, 3] 5 rfl)
    have mlx : (lx, listOf [Value.ref v.lgo, Value.ref ll].toArray 0) ∈ (lx, listOf [Value.ref v.lgo, Value.ref ll].toArray 0) :: (70, tabObj ps2) :: rest1 := List.mem_cons_self
    have m70 : (70, tabObj ps2) ∈ (lx, listOf [Value.ref v.lgo, Value.ref ll].toArray 0) :: (70, tabObj ps2) :: rest1 := List.mem_cons_of_mem _ List.mem_cons_self
    have in2 : Sub rest1 ((lx, listOf [Value.ref v.lgo, Value.ref ll].toArray 0) :: (70, tabObj ps2) :: rest1) := Sub.tail (Sub.tail (Sub.self _))
    generalize (lx, listOf [Value.ref v.lgo, Value.ref ll].toArray 0) :: (70, tabObj ps2) :: rest1 = rest2 at N11 q77 mlx m70 in2
    have htab : ∀ (j : Nat) (v1 : Value), [Value.ref v.lgo, Value.ref ll][j]? = some v1 → ∃ (ly : Addr) (rsy : List Rw) (ky cy : Nat), v1 = .ref ly ∧ (ly, listOf (rsy.map (fun r : Rw => Value.ref r.x)).toArray ky) ∈ rest2 ∧ (∀ q ∈ rowsLed rsy, q ∈ rest2) ∧ rsy.map Rw.cont = tabC v.ds v.n cy ∧
        [rowsS v.ds v.n, rowsS (turned v.ds v.n (v.wm : Int) (v.bs.length : Int)) v.n][j]? = some (rowsC v.ds v.n cy) := by
      intro j v1 hv
      match j, hv with
      | 0, hv =>
        cases hv
        exact ⟨v.lgo, v.rs0, kgo, 0, rfl, in2 _ (inr _ (inb _ mgo)), fun q hq => in2 _ (inr _ (inb _ (V.mr q hq))), V.hc0, by rw [rowsC0]; rfl⟩
      | 1, hv =>
        cases hv
        exact ⟨ll, rs, kl, v.wm, rfl, in2 _ mll, fun q hq => in2 _ (mrs q hq), hcont, by rw [rows_turned hzd, V.hds]; rfl⟩
      | j + 2, hv => cases hv
    have hlm : (lx, listOf [Value.ref v.lgo, Value.ref ll].toArray 0) ∈ (77, tabObj ps') :: rest2 := List.mem_cons_of_mem _ mlx
    refine ⟨_, _, _, _, FJ rest2 [rowsS v.ds v.n, rowsS (turned v.ds v.n (v.wm : Int) (v.bs.length : Int)) v.n], F11, N11, ?_, src_list rfl F11 N11 hlm, hlm, ⟨hb6, ⟨ps', [], hps', rfl, rfl, rfl, fun _ h => nomatch h⟩⟩, CTurn.plain ?_, ?_⟩
    · rw [sizeLine_eq]; show 2 ≤ 16777216; decide
    · rintro j ys nw v1 I2 oI2 C oC D m₂ h13 tk13 g13 E' hj hyl ⟨hb13, ⟨ps3, el2, hp3, rfl, rfl, hel2, hst2⟩⟩ hS hv hoC hm2 F13 N13 off13 ne13 lt13
      obtain ⟨ly, rsy, ky, cy, rfl, mly, mry, hcy, hry⟩ := htab j v1 hv
      have hleny := rows_len hcy
      have o77 := off13 (77, tabObj ps3) List.mem_cons_self
      have in4 : Sub rest2 (elLed el2 ++ rest2) := Sub.right (Sub.self _)
      have el4 : Sub (elLed el2) (elLed el2 ++ rest2) := fun q hq => List.mem_append_left _ hq
      have q774 : ∀ p ∈ elLed el2 ++ rest2, p.1 ≠ 77 := all_app (el_all (P := fun a => a ≠ 77) fun e he => (hst2 e he).2) q77
      generalize elLed el2 ++ rest2 = rest4 at N13 off13 in4 el4 q774
      refine comp_eval F13 (by with_unfolding_all rfl) (by decide) (by rfl) (by decide) (by rfl) ?_
      k_steps
      unfold Halt
      have m2lt : v.n ≤ sizeLine := by rw [sizeLine_eq]; omega
      have q773 : ∀ p ∈ (I2, oI2) :: (C, oC) :: (D, LCg.lst (elRefs el2)) :: rest4, p.1 ≠ 77 := all_cons o77.1.symm (all_cons o77.2.1.symm (all_cons o77.2.2.symm q774))
      have in3 : Sub rest4 ((I2, oI2) :: (C, oC) :: (D, LCg.lst (elRefs el2)) :: rest4) := Sub.tail (Sub.tail (Sub.tail (Sub.self _)))
      have mI3 : (I2, oI2) ∈ (I2, oI2) :: (C, oC) :: (D, LCg.lst (elRefs el2)) :: rest4 := List.mem_cons_self
      have mC3 : (C, oC) ∈ (I2, oI2) :: (C, oC) :: (D, LCg.lst (elRefs el2)) :: rest4 := List.mem_cons_of_mem _ List.mem_cons_self
      have mD3 : (D, LCg.lst (elRefs el2)) ∈ (I2, oI2) :: (C, oC) :: (D, LCg.lst (elRefs el2)) :: rest4 := List.mem_cons_of_mem _ (List.mem_cons_of_mem _ List.mem_cons_self)
      replace N13 := sub_news (news' := (77, tabObj ps3) :: (I2, oI2) :: (C, oC) :: (D, LCg.lst (elRefs el2)) :: rest4) N13 (Sub.pick [3, 0, 1, 2] 4 rfl)
      generalize (I2, oI2) :: (C, oC) :: (D, LCg.lst (elRefs el2)) :: rest4 = rest3 at q773 in3 mI3 mC3 mD3 N13
      have hlm3 : (ly, listOf (rsy.map (fun r : Rw => Value.ref r.x)).toArray ky) ∈ (77, tabObj ps3) :: rest3 := List.mem_cons_of_mem _ (in3 _ (in4 _ mly))
      refine ⟨_, _, _, _, StrJ (rest3) ((tabC v.ds v.n cy).map joinC), F13, N13, ?_, src_list rfl F13 N13 hlm3, hlm3, ⟨hb13, ⟨ps3, hp3, rfl⟩, .nil⟩, CTurn.plain ?_, ?_⟩
      · rw [List.length_map, hleny]; exact m2lt
      · rintro j2 ys2 nw2 vv I3 oI3 C3 oC3 D3 m₃ h14 tk14 g14 E3 hj2 hyl2 ⟨hb14, ⟨ps4, hp4, rfl⟩, hys2⟩ hS2 hv2 hoC2 hm3 F14 N14 off14 ne14 lt14
        rw [List.length_map] at hj2
        obtain ⟨r1, hr1⟩ : ∃ r, rsy[j2]? = some r := ⟨_, List.getElem?_eq_getElem hj2⟩
        have hr1m := List.mem_of_getElem? hr1
        rw [List.getElem?_map, hr1] at hv2
        cases hv2
        dsimp only at hm3
        k_steps
        have p77 := off14 (77, tabObj ps4) List.mem_cons_self
        have hsm := rows_small hn1.2 hcy r1 hr1m
        refine str_row w noProg loose mean mg mb (r := r1) (ps := ps4) (rest := (I3, oI3) :: (C3, oC3) :: (D3, LCg.lst ys2) :: rest3) B' F14 X' (sub_news N14 ?_) T' hb14 rfl (by decide) (by decide) hp4 (fun q hq => U3 (in3 _ (in4 _ (mry q (mem_rowsLed.mpr ⟨r1, hr1m, hq⟩))))) ?_ hsm.2 (by omega) ?_
        · exact Sub.pick [3, 0, 1, 2] 4 rfl
        · exact List.forall_mem_cons.mpr ⟨p77.1.symm, List.forall_mem_cons.mpr ⟨p77.2.1.symm, List.forall_mem_cons.mpr ⟨p77.2.2.symm, q773⟩⟩⟩
        intro ps5 h15 tk15 g15 t15 hp5 hb15 F15 N15
        k_steps
        unfold Halt
        refine CEnd.intro F15 N15 ((77, tabObj ps5) :: rest3) ?_ ?_ (U1 (in3 _ (in4 _ mly))) ⟨hb15, ⟨ps5, hp5, rfl⟩, ?_⟩
        · exact Sub.pick [1, 2, 3, 0] 4 rfl
        · exact List.forall_mem_cons.mpr ⟨p77, fun p hp => off14 p (List.mem_cons_of_mem _ hp)⟩
        · have ec : (tabC v.ds v.n cy)[j2]? = some r1.cont := by rw [← hcy, List.getElem?_map, hr1]; rfl
          rw [List.take_succ, List.getElem?_map, ec]
          exact strs_snoc hys2 _ _
      · rintro D2 h14 tk14 g14 ys2 nw2 F14 N14 off14 lt14 ⟨hb14, ⟨ps4, hp4, rfl⟩, hys2⟩ hS2
        have el1 : (rsy.map (fun r : Rw => Value.ref r.x)).length = ((tabC v.ds v.n cy).map joinC).length := by rw [List.length_map, List.length_map, ← hcy, List.length_map]
        rw [el1, List.take_length, rows_join hzd] at hys2
        have d3 : ∀ q ∈ rest3, q.1 ≠ D2 := fun q hq => off14 q (List.mem_cons_of_mem _ hq)
        have d77 : (77 : Nat) ≠ D2 := off14 (77, tabObj ps4) List.mem_cons_self
        have dI := d3 (I2, oI2) mI3
        have dC := d3 (C, oC) mC3
        have dD := d3 (D, LCg.lst (elRefs el2)) mD3
        refine CEnd.intro F14 N14 ((77, tabObj ps4) :: (elLed (el2 ++ [(D2, ys2, ys2.length, rowsC v.ds v.n cy)]) ++ rest2)) ?_ ?_ (List.mem_cons_of_mem _ (List.mem_append_right _ mlx)) ⟨hb14, ⟨ps4, el2 ++ [(D2, ys2, ys2.length, rowsC v.ds v.n cy)], hp4, rfl, ?_, ?_, ?_⟩⟩
        · have up : ∀ q ∈ rest4, q ∈ (D2, LCg.lst ys2) :: (77, tabObj ps4) :: rest3 := fun q hq => List.mem_cons_of_mem _ (List.mem_cons_of_mem _ (in3 q hq))
          exact Sub.cons (List.mem_cons_of_mem _ (List.mem_cons_of_mem _ mI3)) (Sub.cons (List.mem_cons_of_mem _ (List.mem_cons_of_mem _ mC3)) (Sub.cons (List.mem_cons_of_mem _ (List.mem_cons_of_mem _ mD3)) (Sub.cons (List.mem_cons_of_mem _ List.mem_cons_self) (Sub.both (el_snoc (fun q hq => up q (el4 q hq)) List.mem_cons_self) fun q hq => up q (in4 q hq)))))
        · exact all_cons o77 (all_app (all_sub (el_snoc (el := el2) (A := (D2, LCg.lst ys2) :: rest4) (fun q hq => List.mem_cons_of_mem _ (el4 q hq)) List.mem_cons_self) (all_cons ⟨dI.symm, dC.symm, dD.symm⟩ fun p hp => off13 p (List.mem_cons_of_mem _ hp))) fun p hp => off13 p (List.mem_cons_of_mem _ (in4 p hp)))
        · simp [elRefs]
        · rw [List.map_append, hel2, List.take_succ, hry]; rfl
        · intro e he
          rcases List.mem_append.mp he with he | he
          · exact hst2 e he
          · rw [List.mem_singleton.mp he]; exact ⟨hys2, d77.symm⟩
    · rintro D h13 tk13 g13 ys nw F13 N13 off13 lt13 ⟨hb13, ⟨ps3, el2, hp3, rfl, rfl, hel2, hst2⟩⟩ hS
      replace hel2 : el2.map (·.2.2.2) = [rowsS v.ds v.n, rowsS (turned v.ds v.n (v.wm : Int) (v.bs.length : Int)) v.n] := hel2
      have in4 : Sub rest2 (elLed el2 ++ rest2) := Sub.right (Sub.self _)
      have el4 : Sub (elLed el2) (elLed el2 ++ rest2) := fun q hq => List.mem_append_left _ hq
      generalize elLed el2 ++ rest2 = rest4 at N13 off13 in4 el4
      replace N13 : News H v.L h13 ((D, listOf (elRefs el2).toArray (elRefs el2).length) :: (77, tabObj ps3) :: rest4) := N13
      k_steps
      unfold Halt
      have in0 : ∀ q ∈ rest0, q ∈ rest4 := fun q hq => in4 _ (in2 _ (inr _ hq))
      (rename News _ _ _ _ => Nx)
      refine eq_intsK (News.isList Nx (List.mem_cons_of_mem _ (List.mem_cons_of_mem _ (List.mem_cons_of_mem _ (in0 _ mlme))))) hmes (News.isList Nx List.mem_cons_self) .nil (by (first | decide | ktr_units)) ?_
      rw [decide_eq_true (by rw [hmt]; rfl)]
      k_steps
      unfold Halt
      (rename News _ _ _ _ => Ny)
      have hh : ∀ e ∈ el, _ ∧ StrsAre e.2.1 e.2.2.2 := fun e he => ⟨News.isList Ny (List.mem_cons_of_mem _ (List.mem_cons_of_mem _ (List.mem_cons_of_mem _ (List.mem_cons_of_mem _ (in0 _ (mel (e.1, listOf e.2.1.toArray e.2.2.1) (List.mem_map.mpr ⟨e, he, rfl⟩))))))), hel.sts e he⟩
      have hevl2 : evenL v.bs v.n (2 ^ v.n) ≠ [rowsS (turned v.ds v.n (v.wm : Int) (v.bs.length : Int)) v.n] := by rw [V.hwm]; exact hevl
      have hok3 : ∀ x ∈ evenL v.bs v.n (2 ^ v.n), okS x := by
        intro x hx
        unfold evenL at hx
        obtain ⟨c, _, rfl⟩ := List.mem_map.mp hx
        exact rowsC_ok hn1.2
      refine ne_dataH (reads_strsD (Ny (v.lev, listOf (elRefs el).toArray kev) (List.mem_cons_of_mem _ (List.mem_cons_of_mem _ (List.mem_cons_of_mem _ (List.mem_cons_of_mem _ (in0 _ mlev)))))).1 hh) (.list (Ny _ List.mem_cons_self).1 rfl rfl (.cons (reads_strD (News.isList Ny (List.mem_cons_of_mem _ (List.mem_cons_of_mem _ (List.mem_cons_of_mem _ (List.mem_cons_of_mem _ (in0 _ (inb _ mdu))))))) V.hdu) .nil)) ?_ ?_ (by (first | decide | ktr_units)) ?_
      · rw [hel.eqn]; exact shaped_strss hok3
      · exact shaped_strss (ns := [rowsS (turned v.ds v.n (v.wm : Int) (v.bs.length : Int)) v.n]) fun x hx => by rw [List.mem_singleton.mp hx]; exact rowsS_ok hn1.2
      have e1 : PyData.eqv (strsD (el.map (·.2.2.2))) (strsD [rowsS (turned v.ds v.n (v.wm : Int) (v.bs.length : Int)) v.n]) = false := by
        rw [eqv_strsD, hel.eqn]
        exact decide_eq_false hevl2
      have e2 : PyData.eqv (strsD (el.map (·.2.2.2))) (.list [strD (rowsS (turned v.ds v.n (v.wm : Int) (v.bs.length : Int)) v.n)]) = false := e1
      rw [e2]
      dsimp only [Bool.not_false]
      k_steps
      unfold Halt
      (rename News _ _ _ _ => Nz)
      have hh2 : ∀ e ∈ el2, _ ∧ StrsAre e.2.1 e.2.2.2 := fun e he => ⟨News.isList Nz (List.mem_cons_of_mem _ (List.mem_cons_of_mem _ (List.mem_cons_of_mem _ (List.mem_cons_of_mem _ (List.mem_cons_of_mem _ (el4 (e.1, listOf e.2.1.toArray e.2.2.1) (List.mem_map.mpr ⟨e, he, rfl⟩))))))), (hst2 e he).1⟩
      refine eq_dataH (reads_strsD (Nz (D, listOf (elRefs el2).toArray (elRefs el2).length) (List.mem_cons_of_mem _ (List.mem_cons_of_mem _ (List.mem_cons_of_mem _ List.mem_cons_self)))).1 hh2) (.list (Nz _ List.mem_cons_self).1 rfl rfl (.cons (reads_strD (News.isList Nz (List.mem_cons_of_mem _ (List.mem_cons_of_mem _ (List.mem_cons_of_mem _ (List.mem_cons_of_mem _ (List.mem_cons_of_mem _ (in0 _ (inb _ mai)))))))) V.hai) (.cons (reads_strD (News.isList Nz (List.mem_cons_of_mem _ (List.mem_cons_of_mem _ (List.mem_cons_of_mem _ (List.mem_cons_of_mem _ (List.mem_cons_of_mem _ (in0 _ (inb _ mdu)))))))) V.hdu) .nil))) ?_ ?_ (by (first | decide | ktr_units)) ?_
      · rw [hel2]
        exact shaped_strss fun x hx => by
          rcases List.mem_cons.mp hx with rfl | hx
          · exact rowsS_ok hn1.2
          · rw [List.mem_singleton.mp hx]; exact rowsS_ok hn1.2
      · exact shaped_strss (ns := [rowsS v.ds v.n, rowsS (turned v.ds v.n (v.wm : Int) (v.bs.length : Int)) v.n]) fun x hx => by
          rcases List.mem_cons.mp hx with rfl | hx
          · exact rowsS_ok hn1.2
          · rw [List.mem_singleton.mp hx]; exact rowsS_ok hn1.2
      · have f1 : PyData.eqv (strsD (el2.map (·.2.2.2))) (strsD [rowsS v.ds v.n, rowsS (turned v.ds v.n (v.wm : Int) (v.bs.length : Int)) v.n]) = true := by
          rw [eqv_strsD, hel2]
          exact decide_eq_true rfl
        have f2 : PyData.eqv (strsD (el2.map (·.2.2.2))) (.list [strD (rowsS v.ds v.n), strD (rowsS (turned v.ds v.n (v.wm : Int) (v.bs.length : Int)) v.n)]) = true := f1
        (rename Fr _ _ _ _ => Fx)
        have fin : ∀ (s9 : Shared) b, b = true → Q (Flow.ret (Value.bool true)) s9 → Q (Flow.ret (Value.bool b)) s9 := fun s9 b hb hq => hb ▸ hq
        have m704 := in4 _ m70
        refine fin _ _ f2 (hret _ _ _ _ ps2 ps3 hb13 Fx (sub_news Nz ?_))
        exact Sub.cons (U5 m704) (Sub.cons M4 Sub.nil)
end Mine
end

-- Top0
theorem Mine.gap_Top0 : True ∧ True := by w_top off; walk1 <;> trivial
namespace Mine
open PySem PySem.W PySem.Calls PyProof.Rows
set_option maxRecDepth 100000
set_option maxHeartbeats 8000000
/-- the last row of the text: the law -/
noncomputable def lastCell : {s : Stmt // PySem.Challenge.pw_zd0009_01.main.body[20]? = some s} := ⟨_, rfl⟩
/-- that row alone -/
noncomputable def lastRow : Program := { PySem.Challenge.pw_zd0009_01 with main := { PySem.Challenge.pw_zd0009_01.main with body := [lastCell.1] } }
/-- the names above it -/
def above : List Str := ["_wall", "COMPILER_FLAG_NAMES", "pretty_flags", "EMPTYSTRING", "_Accumulator", "CHAR_MAX", "_grouping_intervals", "_law_flag", "_law_names", "_law_tied", "_law_turned", "_law_rows", "_law_threes", "_law_groups", "_law_table", "_law_odd"]
def partAt : List Addr := [2, 3, 15, 17, 18, 20, 21, 22, 23, 25, 26, 28, 29, 30, 33, 38, 39, 40, 42, 43, 45, 46, 47, 49, 50, 52, 53, 54, 55, 57, 58, 60, 61, 62, 64, 65, 67, 68, 69, 71, 72, 74, 75, 76, 78, 79, 81, 82, 83, 84, 86, 87, 89, 90, 91, 93, 94, 96, 97, 98, 100, 101, 103, 104, 105, 106, 107, 108, 109, 112, 114, 115, 117, 118, 119, 121, 122, 124, 125, 126, 129, 130, 131, 133, 134, 136, 137, 138, 140, 141, 143, 144, 145, 148, 149, 150, 153, 154, 155, 157, 158, 160, 161, 162, 165, 166, 167, 170, 171, 172, 175, 176]
theorem keyAt (P : Params) : partAt = (hd.heap_1 P).map (·.1) := by kernel_rfl
/-- what the top's run must show in the world w, from the start's heap -/
abbrev RunAt (w : World) : Prop := ∀ os : OsState, (topFrom treeTable PySem.Challenge.rw_zd0009_01.row.prog w 2272 ⟨boot_heap w.params, Array.mk [], boot_drawn, boot_toks, os⟩).map (fun s => (openSeen lastRow above (importedModules PySem.Challenge.rw_zd0009_01.row.prog.main.body) (fun s => xlAt lastRow [] s && recOk (RowW.records PySem.Challenge.rw_zd0009_01.row.toRowW) s) true s, (kmHook hd.heap_1 partAt keyAt [70, 77]).obs s)) = some (openGood lastRow above, (kmHook hd.heap_1 partAt keyAt [70, 77]).val w)
theorem run_no (w : World) : RunAt (w.withFollow "special-get-raises" false) := fun os => by
  unfold topFrom
  rw [PySem.W.Fast.te14364793385576792824, PySem.W.Fast.te14082659384304107361, PySem.W.Fast.te4187177175401517315]
  kernel_rfl
theorem run_yes (w : World) : RunAt (w.withFollow "special-get-raises" true) := fun os => by
  unfold topFrom
  rw [PySem.W.Fast.te14364793385576792824, PySem.W.Fast.te14082659384304107361, PySem.W.Fast.te4187177175401517315]
  kernel_rfl
theorem opens_plain : opening PySem.Challenge.rw_zd0009_01.row.prog = plainProg PySem.Challenge.rw_zd0009_01.row.prog.main.scope.names := by kernel_rfl
theorem left : LeftO PySem.Challenge.rw_zd0009_01.row.prog lastRow above (fun s => xlAt lastRow [] s && recOk (RowW.records PySem.Challenge.rw_zd0009_01.row.toRowW) s) (kmHook hd.heap_1 partAt keyAt [70, 77]).obs (kmHook hd.heap_1 partAt keyAt [70, 77]).val 2272 := fun w => by
  obtain ⟨⟨h, gs, d, k, os⟩, e, e'⟩ := Option.map_eq_some_iff.mp (boot_open (p := PySem.Challenge.rw_zd0009_01.row.prog) (N := 2272) opens_plain rfl (fun s => rfl) w)
  cases e'
  unfold openEnds
  rw [e]
  exact byRow2 "special-get-raises" (P := RunAt) run_no run_yes w os
theorem stands : (chainsOk lastRow && opensWell PySem.Challenge.rw_zd0009_01.row.prog && (frees PySem.Challenge.rw_zd0009_01.row.toRowW && PySem.Challenge.rw_zd0009_01.row.within.isEmpty)) = true := by kernel_rfl
theorem said : PySem.Challenge.rw_zd0009_01.wellSaid = true := by
  refine (congrFun PySem.W.Fast.te9446332074065402090 _).trans ?_
  unfold PySem.W.Fast.tw9446332074065402090
  iterate 18 with_reducible refine Bool.and_eq_true_iff.mpr ⟨?_, by as_aux_lemma => kernel_rfl⟩
  as_aux_lemma => kernel_rfl
end Mine

-- Fin
theorem Mine.gap_Fin : True ∧ True := by w_top off; walk1 <;> trivial
namespace Mine
open PySem PySem.W PySem.Calls PyProof.Rows
set_option maxRecDepth 100000
theorem tab_code {w : World} {h : Heap} (X : (hd.heap_1 w.params).In h) : isCodeTable h 70 ∧ isCodeTable h 77 := by
  have a : codeHdIn (hd.heap_1 w.params) 74 70 = true := by kernel_rfl
  have b : codeHdIn (hd.heap_1 w.params) 81 77 = true := by kernel_rfl
  obtain ⟨o, vs, _, _, _, _, _, _, _, h1, h2, h3, h4, _⟩ := codeHd_of_K X a
  obtain ⟨o', vs', _, _, _, _, _, _, _, k1, k2, k3, k4, _⟩ := codeHd_of_K X b
  exact ⟨⟨74, o, vs, h1, h2, h3, h4⟩, ⟨81, o', vs', k1, k2, k3, k4⟩⟩
theorem old_two {w : World} {h h' : Heap} {L : Addr} {m : Str → Option Value} {ps ps' : Array Value} (X : (hd.heap_1 w.params).In h) (e70 : h.get? 70 = some (tabObj #[])) (e77 : h.get? 77 = some (tabObj #[])) (F : Fr (hideAll h [70, 77]) L h' m) (N : News (hideAll h [70, 77]) L h' [(70, tabObj ps), (77, tabObj ps')]) : OldK h h' := by
  obtain ⟨c70, c77⟩ := tab_code X
  have n70 := (N (70, tabObj ps) List.mem_cons_self).1
  have n77 := (N (77, tabObj ps') (List.mem_cons_of_mem _ List.mem_cons_self)).1
  have key : ∀ b o, h.get? b = some o → asItWas h h' b o ∧ ∃ o', h'.get? b = some o' := by
    intro b o e
    by_cases h1 : b = 70
    · subst h1
      rw [e70] at e; cases e
      exact ⟨.inr (.inl ⟨c70, rfl, #[], ps, rfl, by rw [n70, Array.empty_append]⟩), _, n70⟩
    · by_cases h2 : b = 77
      · subst h2
        rw [e77] at e; cases e
        exact ⟨.inr (.inl ⟨c77, rfl, #[], ps', rfl, by rw [n77, Array.empty_append]⟩), _, n77⟩
      · have k := F.keep b o (hideAll_get _ e (by simp [h1, h2]))
        exact ⟨.inl k, _, k⟩
  exact ⟨fun b o e => (key b o e).1, fun b o e => (key b o e).2⟩
set_option maxHeartbeats 1000000 in
theorem fin (hw' : ∀ w, PartB w) : PySem.Challenge.rw_zd0009_01.Holds := by
  refine holds_law said fun said' => ?_
  refine holds_open (q := lastRow) (loose := above) (Xt := fun s => xlAt lastRow [] s && recOk (RowW.records PySem.Challenge.rw_zd0009_01.row.toRowW) s) (XP := XL lastRow []) (Yf := (kmHook hd.heap_1 partAt keyAt [70, 77]).obs) (Ya := (kmHook hd.heap_1 partAt keyAt [70, 77]).val) (YP := (kmHook hd.heap_1 partAt keyAt [70, 77]).says) (N := 2272) left (kmHook hd.heap_1 partAt keyAt [70, 77]).of (kmHook hd.heap_1 partAt keyAt [70, 77]).keeps (fun s e => xl_of s (Bool.and_eq_true_iff.mp e).1) XL.keeps (by rfl) (by rfl) (by rfl) (fun s e => recFacts_of (Bool.and_eq_true_iff.mp e).2) (by rfl) said' stands ⟨rfl, rfl, rfl, rfl, rfl, by decide +kernel⟩ ?hw ?hc
  (case hw => w_witness2)
  clear said'
  k_fill
  intro w s₀ s₁ mg mb G Y fa o pm cd doc dV kV ho hdd hcd hD hmg hg args vals as hpre hlay hrd hwl hlo
  have KX := km_in_of Y
  have KT := km_tabs_of Y
  clear hcd hD
  refine Ground.open G ?_
  intro T B D TE TW
  have e1 := hmg.symm.trans (mg_of KX T.g (v := .ref 176) (by kernel_rfl))
  obtain rfl : fa = 176 := by injection e1 with e1; injection e1
  clear e1 hmg hdd
  wrow_args hpre hlay hrd hwl hlo
  (rename IntsAre _ _ => hI)
  (rename Heap.IsList _ _ _ => hsc)
  (rename ¬ _ => hlen)
  have e70 := KT 70 (by simp)
  have e77 := KT 77 (by simp)
  refine law_a w (hw' w) _ _ _ mg mb s₁ _ _ _ KX T e70 e77 hsc hI (by omega) (.of_eq hg) _ _ ?_
  intro h' tk' g' m' ps ps' hb' F N
  exact ⟨.inl ⟨_, _, [], rfl, fun _ => rfl, ReadsW.bool true, by wrow_post, fun _ => ⟨List.nodup_nil, fun _ hm => (nomatch hm)⟩⟩, old_two KX e70 e77 F N, rfl, hb'⟩
end Mine

-- End
theorem Mine.gap_End : True ∧ True := by w_top off; walk1 <;> trivial
namespace Mine
open PySem PySem.W PySem.Calls PyProof.Rows
theorem holds : PySem.Challenge.rw_zd0009_01.Holds := fin fun w => law_b w (law_c1 w (law_c2 w (law_d w (law_e w (law_t2 w (law_t3 w (law_t4 w))) (law_f w)))))
end Mine

open PySem PySem.W PyProof.Rows
theorem PySem.Challenge.cw_zd0009_01_holds : PySem.Challenge.rw_zd0009_01.Holds := by
  exact Mine.holds
