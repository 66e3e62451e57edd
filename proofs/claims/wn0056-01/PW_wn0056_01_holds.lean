import PyProof.Rows.All
import Wide.All
import OpenK.AllK
import Wide.FinOn
import PyProof.IsiBase
import PyProof.IsiStr
import PyProof.IsiH_list
import KE.LcTurns
import PyProof.StrReplace2
import KE.RegKLenAny
import PyProof.Rows.SeqMore
import KE.KSliceW
import PyProof.NeKinds
import KE.KTab
import Lean
import PySem.Challenge.RW_wn0056_01
open PySem PySem.W PyProof.Rows PySem.Calls
set_option Elab.async false

-- part L1
namespace Mine
set_option maxRecDepth 100000
set_option maxHeartbeats 8000000

def S (l : List Nat) : Str := ⟨l.toArray⟩
theorem S_len (l : List Nat) : (S l).length = l.length := by simp [S, Str.length]
theorem S_add (a b : List Nat) : S a ++ S b = S (a ++ b) := by
  show Str.append (S a) (S b) = S (a ++ b)
  simp [Str.append, S]
theorem S_inj {a b : List Nat} (h : S a = S b) : a = b := by
  have := congrArg (fun x : Str => x.cps.toList) h
  simpa [S] using this
theorem S_beq (a b : List Nat) : (S a == S b) = decide (a = b) := by
  by_cases h : a = b
  · subst h; simp
  · have : S a ≠ S b := fun e => h (S_inj e)
    simp [h, this]
theorem S_bne (a b : List Nat) : (S a != S b) = decide (a ≠ b) := by
  simp only [bne, S_beq]; by_cases h : a = b <;> simp [h]
theorem S_toList (l : List Nat) : (S l).cps.toList = l := by simp [S]

section
open Builtin Builtin.Str StrLaws
theorem slice_nat (l : List Nat) (lo hi : Option Int) (a b : Nat) (hab : a ≤ b) (hb : b ≤ l.length)
    (e : strSliceIndices lo hi 1 l.length = strSliceIndices (some (a : Int)) (some (b : Int)) 1 l.length) :
    Txt.slice (S l) lo hi = S ((l.drop a).take (b - a)) := by
  have h0 : Txt.slice (S l) lo hi = sliceText (S l) (some (a : Int)) (some (b : Int)) := by
    unfold Txt.slice sliceText
    rw [S_len, e]
  rw [h0, sliceText_nat (S l) hab (by rw [S_len]; exact hb), S_toList]
  rfl
theorem clip1 (v : Option Int) (d : Int) (n : Nat) (a : Nat) (hd : v = none → (a : Int) = d)
    (h : ∀ i, v = some i → (a : Int) = max 0 (min (if i < 0 then i + n else i) n)) :
    (match v with | none => d | some i => max 0 (min (if i < 0 then i + (n : Int) else i) n)) = (a : Int) := by
  cases v with
  | none => exact (hd rfl).symm
  | some i => exact (h i rfl).symm
theorem cl_id {a : Int} {n : Nat} (h0 : 0 ≤ a) (h : a ≤ n) : max (0 : Int) (min a n) = a := by rw [Int.min_eq_left h, Int.max_eq_right h0]
theorem cl_pos {i : Int} {n : Nat} (h : 0 ≤ i) : max (0 : Int) (min (if i < 0 then i + (n : Int) else i) n) = ((min i.toNat n : Nat) : Int) := by
  rw [if_neg (Int.not_lt.mpr h)]
  obtain ⟨k, rfl⟩ := Int.eq_ofNat_of_zero_le h
  rw [Int.toNat_natCast]
  rcases Nat.le_total k n with h1 | h1
  · rw [Nat.min_eq_left h1, cl_id h (Int.ofNat_le.mpr h1)]
  · rw [Nat.min_eq_right h1, Int.min_eq_right (Int.ofNat_le.mpr h1), Int.max_eq_right (Int.natCast_nonneg n)]
theorem cl_neg {j : Int} {n : Nat} (h : j < 0) : max (0 : Int) (min (if j < 0 then j + (n : Int) else j) n) = ((n - (-j).toNat : Nat) : Int) := by
  rw [if_pos h]
  obtain ⟨k, hk⟩ := Int.eq_ofNat_of_zero_le (Int.le_of_lt (Int.neg_pos_of_neg h))
  have e : j = -(k : Int) := by rw [← hk, Int.neg_neg]
  rw [hk, Int.toNat_natCast, e, Int.min_eq_left (by omega)]
  omega
theorem idx_eq (lo hi : Option Int) (n a b : Nat) (ha : a ≤ n) (hb : b ≤ n)
    (h1 : (match lo with | none => (0 : Int) | some i => max 0 (min (if i < 0 then i + (n : Int) else i) n)) = (a : Int))
    (h2 : (match hi with | none => (n : Int) | some i => max 0 (min (if i < 0 then i + (n : Int) else i) n)) = (b : Int)) :
    strSliceIndices lo hi 1 n = strSliceIndices (some (a : Int)) (some (b : Int)) 1 n := by
  have e1 : max (0 : Int) (min (a : Int) (n : Int)) = a := cl_id (Int.natCast_nonneg a) (Int.ofNat_le.mpr ha)
  have e2 : max (0 : Int) (min (b : Int) (n : Int)) = b := cl_id (Int.natCast_nonneg b) (Int.ofNat_le.mpr hb)
  have n1 : ¬ ((a : Int) < 0) := Int.not_lt.mpr (Int.natCast_nonneg a)
  have n2 : ¬ ((b : Int) < 0) := Int.not_lt.mpr (Int.natCast_nonneg b)
  have one : ((1 : Int) > 0) = True := by simp
  unfold strSliceIndices
  simp only [one, if_true, n1, n2, if_false, e1, e2]
  cases lo <;> cases hi <;> exact congr (congr (congrArg sliceRange h1) h2) rfl
theorem slice_from (l : List Nat) (i : Int) (h : 0 ≤ i) : Txt.slice (S l) (some i) none = S (l.drop i.toNat) := by
  rw [slice_nat l (some i) none (min i.toNat l.length) l.length (Nat.min_le_right _ _) (Nat.le_refl _)
    (idx_eq _ _ _ _ _ (Nat.min_le_right _ _) (Nat.le_refl _) (cl_pos h) rfl)]
  congr 1
  rw [List.take_of_length_le (by rw [List.length_drop]; omega)]
  by_cases h1 : i.toNat ≤ l.length
  · rw [Nat.min_eq_left h1]
  · have h2 := Nat.le_of_not_le h1
    rw [Nat.min_eq_right h2, List.drop_length, List.drop_of_length_le h2]
theorem slice_to (l : List Nat) (j : Int) (h : 0 ≤ j) : Txt.slice (S l) none (some j) = S (l.take j.toNat) := by
  rw [slice_nat l none (some j) 0 (min j.toNat l.length) (Nat.zero_le _) (Nat.min_le_right _ _)
    (idx_eq _ _ _ _ _ (Nat.zero_le _) (Nat.min_le_right _ _) rfl (cl_pos h))]
  congr 1
  rw [List.drop_zero, Nat.sub_zero]
  by_cases h1 : j.toNat ≤ l.length
  · rw [Nat.min_eq_left h1]
  · have h2 := Nat.le_of_not_le h1
    rw [Nat.min_eq_right h2, List.take_length, List.take_of_length_le h2]
theorem slice_to_neg (l : List Nat) (j : Int) (h : j < 0) : Txt.slice (S l) none (some j) = S (l.take (l.length - (-j).toNat)) := by
  rw [slice_nat l none (some j) 0 (l.length - (-j).toNat) (Nat.zero_le _) (Nat.sub_le _ _)
    (idx_eq _ _ _ _ _ (Nat.zero_le _) (Nat.sub_le _ _) rfl (cl_neg h))]
  congr 1
theorem slice_all (l : List Nat) : Txt.slice (S l) none none = S l := by
  rw [slice_nat l none none 0 l.length (Nat.zero_le _) (Nat.le_refl _) (idx_eq _ _ _ _ _ (Nat.zero_le _) (Nat.le_refl _) rfl rfl)]
  simp
theorem slice_run (l : List Nat) (i j : Int) (h0 : 0 ≤ i) (h1 : i ≤ j) (h2 : j ≤ l.length) : Txt.slice (S l) (some i) (some j) = S ((l.drop i.toNat).take (j.toNat - i.toNat)) := by
  obtain ⟨a, rfl⟩ := Int.eq_ofNat_of_zero_le h0
  obtain ⟨b, rfl⟩ := Int.eq_ofNat_of_zero_le (Int.le_trans h0 h1)
  have hb := Int.ofNat_le.mp h2
  have ha := Nat.le_trans (Int.ofNat_le.mp h1) hb
  rw [slice_nat l (some _) (some _) a b (Int.ofNat_le.mp h1) hb
    (idx_eq _ _ _ _ _ ha hb ((cl_pos h0).trans (congrArg _ (Nat.min_eq_left ha))) ((cl_pos (Int.le_trans h0 h1)).trans (congrArg _ (Nat.min_eq_left hb))))]
  rfl
end
theorem item_S (l : List Nat) (i : Int) (c : Nat) (h : (if i < 0 then l[(i + l.length).toNat]? else l[i.toNat]?) = some c) (h0 : -(l.length : Int) ≤ i) (h1 : i < l.length) : Txt.item (S l) i = S [c] := by
  unfold Txt.item Txt.charAt seqIndex?
  have : ((if 0 ≤ (if i < 0 then i + ((S l).length : Int) else i) && (if i < 0 then i + ((S l).length : Int) else i) < ((S l).length : Int) then some (if i < 0 then i + ((S l).length : Int) else i).toNat else none : Option Nat).bind ((S l).cps[·]?)) = some c := by
    rw [S_len]
    by_cases hi : i < 0
    · simp only [hi, if_true] at h ⊢
      have a1 : 0 ≤ i + (l.length : Int) := by omega
      have a2 : i + (l.length : Int) < (l.length : Int) := by omega
      simp only [a1, a2, decide_true, Bool.and_self, if_true, Option.bind_some]
      simpa [S] using h
    · simp only [hi, if_false] at h ⊢
      have a1 : 0 ≤ i := by omega
      have a2 : i < (l.length : Int) := by omega
      simp only [a1, a2, decide_true, Bool.and_self, if_true, Option.bind_some]
      simpa [S] using h
  dsimp only at this ⊢
  rw [this]
  rfl

section
variable {prog : Program} {w : World} {A : Around} {E : Value → Shared → Prop} {s : Shared} {value slice : PySem.Expr} {l a b : List Nat} {t u : Tok} {Q : Value → Shared → Prop} {h₀ : Heap} {L : Addr} {m : Str → Option Value} {news : List (Addr × Obj)}
theorem line_of {l : List Nat} (h : l.length ≤ 1000000) : (S l).length ≤ sizeLine := by rw [S_len, sizeLine_eq]; omega
theorem sub_from {i : Int} {ui : Tok} (F : Fr h₀ L s.heap m) (N : News h₀ L s.heap news) (hl : l.length ≤ 1000000) (h0 : 0 ≤ i) (r : List Nat) (hr : l.drop i.toNat = r)
    (h : ∀ h' t' k, Fr h₀ L h' m → News h₀ L h' news → Q (.str (S r) t') { s with heap := h', toks := k })
    (hs : subscripted slice false (.str (S l) t) (.ref s.heap.objs.size) = operate [.ref s.heap.objs.size, .str (S l) t] (getItem (.str (S l) t) (.ref s.heap.objs.size)) := by with_unfolding_all rfl)
    (ht : ∀ r, letTemporaryGo value (.str (S l) t) r = pure () := by intro _; with_unfolding_all rfl) :
    wpAny (model prog w) A (subscriptTail value slice (.str (S l) t) (.ref s.heap.objs.size)) Q E { s with heap := s.heap.push { cls := .type "slice", data := .fields #[.int i ui, .none, .none] } } :=
  slice_strN_sn F N (fun h' t' k a b => by rw [slice_from l i h0, hr]; exact h h' t' k a b) hs ht (line_of hl)
theorem sub_to {i : Int} {ui : Tok} (F : Fr h₀ L s.heap m) (N : News h₀ L s.heap news) (hl : l.length ≤ 1000000) (h0 : 0 ≤ i) (r : List Nat) (hr : l.take i.toNat = r)
    (h : ∀ h' t' k, Fr h₀ L h' m → News h₀ L h' news → Q (.str (S r) t') { s with heap := h', toks := k })
    (hs : subscripted slice false (.str (S l) t) (.ref s.heap.objs.size) = operate [.ref s.heap.objs.size, .str (S l) t] (getItem (.str (S l) t) (.ref s.heap.objs.size)) := by with_unfolding_all rfl)
    (ht : ∀ r, letTemporaryGo value (.str (S l) t) r = pure () := by intro _; with_unfolding_all rfl) :
    wpAny (model prog w) A (subscriptTail value slice (.str (S l) t) (.ref s.heap.objs.size)) Q E { s with heap := s.heap.push { cls := .type "slice", data := .fields #[.none, .int i ui, .none] } } :=
  slice_strN_ns F N (fun h' t' k a b => by rw [slice_to l i h0, hr]; exact h h' t' k a b) hs ht (line_of hl)
theorem sub_to_neg {i : Int} {ui : Tok} (F : Fr h₀ L s.heap m) (N : News h₀ L s.heap news) (hl : l.length ≤ 1000000) (h0 : i < 0) (r : List Nat) (hr : l.take (l.length - (-i).toNat) = r)
    (h : ∀ h' t' k, Fr h₀ L h' m → News h₀ L h' news → Q (.str (S r) t') { s with heap := h', toks := k })
    (hs : subscripted slice false (.str (S l) t) (.ref s.heap.objs.size) = operate [.ref s.heap.objs.size, .str (S l) t] (getItem (.str (S l) t) (.ref s.heap.objs.size)) := by with_unfolding_all rfl)
    (ht : ∀ r, letTemporaryGo value (.str (S l) t) r = pure () := by intro _; with_unfolding_all rfl) :
    wpAny (model prog w) A (subscriptTail value slice (.str (S l) t) (.ref s.heap.objs.size)) Q E { s with heap := s.heap.push { cls := .type "slice", data := .fields #[.none, .int i ui, .none] } } :=
  slice_strN_ns F N (fun h' t' k a b => by rw [slice_to_neg l i h0, hr]; exact h h' t' k a b) hs ht (line_of hl)
theorem sub_all (F : Fr h₀ L s.heap m) (N : News h₀ L s.heap news) (hl : l.length ≤ 1000000)
    (h : ∀ h' t' k, Fr h₀ L h' m → News h₀ L h' news → Q (.str (S l) t') { s with heap := h', toks := k })
    (hs : subscripted slice false (.str (S l) t) (.ref s.heap.objs.size) = operate [.ref s.heap.objs.size, .str (S l) t] (getItem (.str (S l) t) (.ref s.heap.objs.size)) := by with_unfolding_all rfl)
    (ht : ∀ r, letTemporaryGo value (.str (S l) t) r = pure () := by intro _; with_unfolding_all rfl) :
    wpAny (model prog w) A (subscriptTail value slice (.str (S l) t) (.ref s.heap.objs.size)) Q E { s with heap := s.heap.push { cls := .type "slice", data := .fields #[.none, .none, .none] } } :=
  slice_strN_nn F N (fun h' t' k a b => by rw [slice_all l]; exact h h' t' k a b) hs ht (line_of hl)
theorem sub_run {i j : Int} {ui uj : Tok} (F : Fr h₀ L s.heap m) (N : News h₀ L s.heap news) (hl : l.length ≤ 1000000) (h0 : 0 ≤ i) (h1 : i ≤ j) (h2 : j ≤ l.length) (r : List Nat) (hr : (l.drop i.toNat).take (j.toNat - i.toNat) = r)
    (h : ∀ h' t' k, Fr h₀ L h' m → News h₀ L h' news → Q (.str (S r) t') { s with heap := h', toks := k })
    (hs : subscripted slice false (.str (S l) t) (.ref s.heap.objs.size) = operate [.ref s.heap.objs.size, .str (S l) t] (getItem (.str (S l) t) (.ref s.heap.objs.size)) := by with_unfolding_all rfl)
    (ht : ∀ r, letTemporaryGo value (.str (S l) t) r = pure () := by intro _; with_unfolding_all rfl) :
    wpAny (model prog w) A (subscriptTail value slice (.str (S l) t) (.ref s.heap.objs.size)) Q E { s with heap := s.heap.push { cls := .type "slice", data := .fields #[.int i ui, .int j uj, .none] } } :=
  slice_strN_ss F N (fun h' t' k a b => by rw [slice_run l i j h0 h1 h2, hr]; exact h h' t' k a b) hs ht (line_of hl)
theorem sub_item {i : Int} (hl : l.length ≤ 1000000) (h0 : -(l.length : Int) ≤ i) (h1 : i < l.length) (c : Nat) (hc : (if i < 0 then l[(i + l.length).toNat]? else l[i.toNat]?) = some c)
    (h : Q (.str (S [c]) s.toks) { s with toks := s.toks + 1 })
    (hs : subscripted slice false (.str (S l) t) (.int i u) = operate [.str (S l) t, .int i u] (getItem (.str (S l) t) (.int i u)) := by with_unfolding_all rfl)
    (ht : ∀ r, letTemporaryGo value (.str (S l) t) r = pure () := by intro _; with_unfolding_all rfl) :
    wpAny (model prog w) A (subscriptTail value slice (.str (S l) t) (.int i u)) Q E s :=
  KXi.item (n := l.length) (S_len l) h0 h1 (by omega) (fun _ => by rw [item_S l i c hc h0 h1]; exact h) hs ht
theorem eq_yes (e : a = b) (h : Q (.bool true) s) : wpAny (model prog w) A (compareOp .Eq (.str (S a) t) (.str (S b) u)) Q E s := PyProof.Rows.eq_str (by rw [S_beq, decide_eq_true e]; exact h)
theorem eq_no (e : a ≠ b) (h : Q (.bool false) s) : wpAny (model prog w) A (compareOp .Eq (.str (S a) t) (.str (S b) u)) Q E s := PyProof.Rows.eq_str (by rw [S_beq, decide_eq_false e]; exact h)
theorem ne_yes (e : a ≠ b) (h : Q (.bool true) s) : wpAny (model prog w) A (compareOp .NotEq (.str (S a) t) (.str (S b) u)) Q E s := PyProof.Rows.ne_str (by rw [S_bne, decide_eq_true e]; exact h)
theorem ne_no (e : a = b) (h : Q (.bool false) s) : wpAny (model prog w) A (compareOp .NotEq (.str (S a) t) (.str (S b) u)) Q E s := PyProof.Rows.ne_str (by rw [S_bne, decide_eq_false (fun x => x e)]; exact h)
theorem add_S (hl : a.length + b.length ≤ 1000000) (h : ∀ t' k, Q (.str (S (a ++ b)) t') { s with toks := k }) : wpAny (model prog w) A (binaryOp .Add (.str (S a) t) (.str (S b) u)) Q E s :=
  PyProof.Rows.add_str (fun t' k => by rw [S_add]; exact h t' k) (by rw [S_len, S_len, sizeLine_eq]; omega)
theorem len_S (hl : l.length ≤ 1000000) (h : Q (.int l.length (s.toks + 1)) { s with toks := s.toks + 1 + 1 }) : wpAny (model prog w) A (call (.builtin "len") [.str (S l) t]) Q E s :=
  PyProof.Rows.len_str (by rw [S_len]; omega) (by rw [S_len]; exact h)
theorem truthy_S (hl : l.length ≤ 1000000) {Q : Bool → Shared → Prop} (bb : Bool) (hb : decide (l ≠ []) = bb) (h : Q bb { s with toks := s.toks + 1 + 1 }) : wpAny (model prog w) A (truthy (.str (S l) t)) Q E s :=
  P.truthy_str (by rw [S_len]; omega) (by
    rw [S_len]
    have : ((l.length : Int) != 0) = bb := by
      rw [← hb]
      cases l with
      | nil => rfl
      | cons x r => simp; omega
    rw [this]; exact h)
end
section
variable {prog : Program} {w : World} {A : Around} {E : Value → Shared → Prop} {s : Shared} {a b : List Nat} {y z : Str} {t u : Tok} {Q : Value → Shared → Prop} {h₀ : Heap} {L : Addr} {m : Str → Option Value} {news : List (Addr × Obj)}
theorem eq_yes' (hz : z = S a) (hy : y = S b) (e : a = b) (h : Q (.bool true) s) : wpAny (model prog w) A (compareOp .Eq (.str z t) (.str y u)) Q E s := by subst hz hy; exact eq_yes e h
theorem eq_no' (hz : z = S a) (hy : y = S b) (e : a ≠ b) (h : Q (.bool false) s) : wpAny (model prog w) A (compareOp .Eq (.str z t) (.str y u)) Q E s := by subst hz hy; exact eq_no e h
theorem ne_yes' (hz : z = S a) (hy : y = S b) (e : a ≠ b) (h : Q (.bool true) s) : wpAny (model prog w) A (compareOp .NotEq (.str z t) (.str y u)) Q E s := by subst hz hy; exact ne_yes e h
theorem ne_no' (hz : z = S a) (hy : y = S b) (e : a = b) (h : Q (.bool false) s) : wpAny (model prog w) A (compareOp .NotEq (.str z t) (.str y u)) Q E s := by subst hz hy; exact ne_no e h
theorem add_S' (hz : z = S a) (hy : y = S b) (hl : a.length + b.length ≤ 1000000) (h : ∀ t' k, Q (.str (S (a ++ b)) t') { s with toks := k }) : wpAny (model prog w) A (binaryOp .Add (.str z t) (.str y u)) Q E s := by subst hz hy; exact add_S hl h
theorem fr_of {h : Heap} (F : Fr h₀ L h m) (ps : List (Str × Value)) (e : ∀ p ∈ ps, m p.1 = some p.2) : Fr h₀ L h (kstB m ps) := by
  have : kstB m ps = m := by funext z; exact kstB_eq e fun _ => rfl
  rw [this]; exact F
end
theorem lit257 : Str.ofString "257" = S [50, 53, 55] := by decide +kernel
theorem litSpQ : Str.ofString " \"" = S [32, 34] := by decide +kernel
theorem litQ : Str.ofString "\"" = S [34] := by decide +kernel
theorem litE : Str.ofString "" = S [] := by decide +kernel
theorem lit257Q : Str.ofString "257 \"" = S [50, 53, 55, 32, 34] := by decide +kernel
theorem litLies : Str.ofString "\" lies between them" = S (34 :: 32 :: [108, 105, 101, 115, 32, 98, 101, 116, 119, 101, 101, 110, 32, 116, 104, 101, 109]) := by decide +kernel
def HI (m : Str → Option Value) (x : Str) (i : Int) : Prop := ∃ t, m x = some (.int i t)
def HS (m : Str → Option Value) (x : Str) (l : List Nat) : Prop := ∃ t, m x = some (.str (S l) t)
theorem HI.mk {m : Str → Option Value} {x : Str} {i j : Int} {t : Tok} (h : m x = some (.int i t)) (e : i = j) : HI m x j := ⟨t, e ▸ h⟩
theorem HS.mk {m : Str → Option Value} {x y : Str} {l : List Nat} {t : Tok} (h : m x = some (.str y t)) (e : y = S l) : HS m x l := ⟨t, e ▸ h⟩
theorem ws_next {h₀ h' : Heap} {L : Addr} {s : Shared} {J : Nat → (Str → Option Value) → List (Addr × Obj) → Prop} {Q : Flow → Shared → Prop} {n n' tk : Nat} {m₂ : Str → Option Value} {news₂ : List (Addr × Obj)}
    (F : Fr h₀ L h' m₂) (N : News h₀ L h' news₂) (hn : n' < n) (hJ : J n' m₂ news₂) : WhileStep2 h₀ L s J Q n .next { s with heap := h', toks := tk } := ⟨h', tk, m₂, news₂, n', rfl, F, N, hn, hJ⟩
end Mine

-- part L2
namespace Mine
set_option maxRecDepth 100000
set_option maxHeartbeats 8000000
def rep (n : Nat) : List Nat := List.replicate n 34
theorem rep_len (n : Nat) : (rep n).length = n := by simp [rep]
theorem rep_get (n j : Nat) (h : j < n) : (rep n)[j]? = some 34 := by simp [rep, h]
theorem rep_succ (n : Nat) : rep n ++ [34] = rep (n + 1) := by rw [rep, rep, List.replicate_succ']
theorem rep_drop (n j : Nat) : (rep n).drop j = rep (n - j) := by simp [rep]
theorem rep_inj {a b : Nat} (h : rep a = rep b) : a = b := by have := congrArg List.length h; simpa [rep] using this
def WL (c p : Nat) : List Nat := c :: (rep p ++ [c])
theorem WL_len (c p : Nat) : (WL c p).length = p + 2 := by simp [WL, rep]
theorem WL_0 (c p : Nat) (j : Nat) (h : j = 0) : (WL c p)[j]? = some c := by subst h; rfl
theorem WL_34 (c p : Nat) (j : Nat) (h1 : 1 ≤ j) (h2 : j ≤ p) : (WL c p)[j]? = some 34 := by
  obtain ⟨i, rfl⟩ : ∃ i, j = i + 1 := ⟨j - 1, by omega⟩
  show (rep p ++ [c])[i]? = some 34
  rw [List.getElem?_append_left (by rw [rep_len]; omega)]
  exact rep_get _ _ (by omega)
theorem WL_c (c p : Nat) (j : Nat) (h : j = p + 1) : (WL c p)[j]? = some c := by
  subst h
  show (rep p ++ [c])[p]? = some c
  rw [List.getElem?_append_right (by rw [rep_len]; omega), rep_len]; simp
theorem WL_drop (c p j : Nat) (h : 1 ≤ j) (h2 : j ≤ p + 1) : (WL c p).drop j = rep (p + 1 - j) ++ [c] := by
  obtain ⟨i, rfl⟩ : ∃ i, j = i + 1 := ⟨j - 1, by omega⟩
  show (rep p ++ [c]).drop i = _
  rw [List.drop_append_of_le_length (by rw [rep_len]; omega), rep_drop]
  congr 2; omega
theorem WL_ne {c p q : Nat} (h : p ≠ q) : WL c p ≠ WL c q := fun e => h (by have := congrArg List.length e; rw [WL_len, WL_len] at this; omega)
theorem drop_ne {l : List Nat} {j : Nat} (h : j < l.length) : l.drop j ≠ [] := by
  intro e
  have := congrArg List.length e
  rw [List.length_drop] at this
  simp at this; omega
-- the rest behind the common head
def RL (c d : Nat) : List Nat := rep d ++ [c]
theorem RL_len (c d : Nat) : (RL c d).length = d + 1 := by simp [RL, rep]
theorem RL_ne (c d : Nat) : RL c d ≠ [] := by simp [RL]
theorem RL_last (c d : Nat) : (RL c d)[d]? = some c := by
  show (rep d ++ [c])[d]? = some c
  rw [List.getElem?_append_right (by rw [rep_len]; omega), rep_len]; simp
theorem RL_cut (c d : Nat) : (RL c d).take ((RL c d).length - 1) = rep d := by
  rw [RL_len]
  show (rep d ++ [c]).take (d + 1 - 1) = rep d
  rw [List.take_append_of_le_length (by rw [rep_len]; omega)]
  rw [show d + 1 - 1 = (rep d).length by rw [rep_len]; omega, List.take_length]
theorem WL_RL (c p j : Nat) (h : 1 ≤ j) (h2 : j ≤ p + 1) : (WL c p).drop j = RL c (p + 1 - j) := WL_drop c p j h h2
def XX (d : Nat) (tail : List Nat) : List Nat := 50 :: 53 :: 55 :: 32 :: 34 :: (rep (2*d) ++ 34 :: 32 :: tail)
theorem XX_len (d : Nat) (tail : List Nat) : (XX d tail).length = 7 + 2 * d + tail.length := by
  simp [XX, rep]; omega
theorem XX_34 (d : Nat) (tail : List Nat) (j : Nat) (h5 : 5 ≤ j) (h : j ≤ 5 + 2 * d) : (XX d tail)[j]? = some 34 := by
  obtain ⟨i, rfl⟩ : ∃ i, j = i + 5 := ⟨j - 5, by omega⟩
  show (rep (2*d) ++ 34 :: 32 :: tail)[i]? = some 34
  by_cases hi : i < 2 * d
  · rw [List.getElem?_append_left (by simpa [rep] using hi)]
    simp [rep, hi]
  · have : i = 2 * d := by omega
    rw [List.getElem?_append_right (by simp [rep]; omega)]
    simp [rep, this]
theorem XX_32 (d : Nat) (tail : List Nat) (j : Nat) (h : j = 6 + 2 * d) : (XX d tail)[j]? = some 32 := by
  obtain ⟨i, rfl⟩ : ∃ i, j = i + 5 := ⟨j - 5, by omega⟩
  show (rep (2*d) ++ 34 :: 32 :: tail)[i]? = some 32
  have : i = 2 * d + 1 := by omega
  rw [List.getElem?_append_right (by simp [rep]; omega)]
  simp [rep, this]
theorem rep_nil {n : Nat} (h : n = 0) : rep n = [] := by subst h; rfl
theorem rep_full {n : Nat} (h : 0 < n) : rep n ≠ [] := by intro e; have := congrArg List.length e; rw [rep_len] at this; simp at this; omega
theorem RL_last' (c d i : Nat) (h : i = d) : (RL c d)[i]? = some c := by subst h; exact RL_last c i
end Mine

-- part Has
namespace Mine
set_option maxRecDepth 100000
set_option maxHeartbeats 2000000
open Sem (wp)
theorem kind_hasattr : builtinKind "hasattr" = none := by decide +kernel
theorem plain_hasattr : plainId "hasattr" = true := by decide +kernel
theorem entry_hasattr : entryFor table "hasattr" = some Builtin.«hasattr» := entryFor_of_tree (by kernel_rfl)
theorem args_hasattr_2 (a b : Value) : argsOk "hasattr" ⟨[a, b], []⟩ := by unfold argsOk; kernel_rfl
theorem lk_str_gi : typeLookup (.type "str") "__getitem__" = pure (some (.builtin "str.__getitem__")) := by rw [typeLookup_type, builtinLookup_eq_fast]; kernel_rfl
theorem lk_list_gi : typeLookup (.type "list") "__getitem__" = pure (some (.builtin "list.__getitem__")) := by rw [typeLookup_type, builtinLookup_eq_fast]; kernel_rfl
theorem ty_str_gi : typeOf (.builtin "str.__getitem__") = pure (.type "wrapper_descriptor") := by kernel_rfl
theorem ty_list_gi : typeOf (.builtin "list.__getitem__") = pure (.type "method_descriptor") := by kernel_rfl
theorem slot_wd_get : Slot "wrapper_descriptor" "__get__" "wrapper_descriptor.__get__" :=
  .of (owner := "wrapper_descriptor") (n := "__get__") (by rw [typeLookup_type, builtinLookup_eq_fast]; kernel_rfl) (by decide +kernel) (by decide +kernel) (by decide +kernel)
    (by first | exact .inl (by decide +kernel) | exact .inr (by decide +kernel)) (by rw [isSubtype_type]; kernel_rfl)
theorem slot_md_get : Slot "method_descriptor" "__get__" "method_descriptor.__get__" :=
  .of (owner := "method_descriptor") (n := "__get__") (by rw [typeLookup_type, builtinLookup_eq_fast]; kernel_rfl) (by decide +kernel) (by decide +kernel) (by decide +kernel)
    (by first | exact .inl (by decide +kernel) | exact .inr (by decide +kernel)) (by rw [isSubtype_type]; kernel_rfl)
theorem entry_wd_get : entryFor table "wrapper_descriptor.__get__" = some Builtin.«wrapper_descriptor.__get__» := entryFor_of_tree (by kernel_rfl)
theorem entry_md_get : entryFor table "method_descriptor.__get__" = some Builtin.«method_descriptor.__get__» := entryFor_of_tree (by kernel_rfl)
theorem args_wd_get (a b c : Value) : argsOk "wrapper_descriptor.__get__" ⟨[a, b, c], []⟩ := by unfold argsOk; kernel_rfl
theorem args_md_get (a b c : Value) : argsOk "method_descriptor.__get__" ⟨[a, b, c], []⟩ := by unfold argsOk; kernel_rfl
theorem lk_wd_set : typeLookup (.type "wrapper_descriptor") "__set__" = pure none := by rw [typeLookup_type, builtinLookup_eq_fast]; kernel_rfl
theorem lk_wd_del : typeLookup (.type "wrapper_descriptor") "__delete__" = pure none := by rw [typeLookup_type, builtinLookup_eq_fast]; kernel_rfl
theorem lk_md_set : typeLookup (.type "method_descriptor") "__set__" = pure none := by rw [typeLookup_type, builtinLookup_eq_fast]; kernel_rfl
theorem lk_md_del : typeLookup (.type "method_descriptor") "__delete__" = pure none := by rw [typeLookup_type, builtinLookup_eq_fast]; kernel_rfl

theorem owner_str_gi : (".".intercalate ("str.__getitem__".cutAt '.').dropLast) = "str" := by
  have e0 : "str.__getitem__".cutAt '.' = ["str", "__getitem__"] := by first | rfl | decide +kernel
  rw [e0]; decide +kernel
theorem owner_list_gi : (".".intercalate ("list.__getitem__".cutAt '.').dropLast) = "list" := by
  have e0 : "list.__getitem__".cutAt '.' = ["list", "__getitem__"] := by first | rfl | decide +kernel
  rw [e0]; decide +kernel
theorem sub_str_gi : isSubtype (.type "str") (.type (".".intercalate ("str.__getitem__".cutAt '.').dropLast)) = pure true := by
  rw [owner_str_gi, isSubtype_type]; kernel_rfl
theorem sub_list_module : isSubtype (.type "list") (.type "module") = pure false := by rw [isSubtype_type]; kernel_rfl
theorem sub_list_gi : isSubtype (.type "list") (.type (".".intercalate ("list.__getitem__".cutAt '.').dropLast)) = pure true := by
  rw [owner_list_gi, isSubtype_type]; kernel_rfl

section
variable {prog : Program} {w : World} {A : Around} {E : Value → Shared → Prop} {h : Heap} {g : Array GenState} {d : Drawn} {t : Nat} {os : OsState} {x : Str} {u tk : Tok}
theorem wd_get_str {R : Result → Shared → Prop} (hq : ∀ q h' k, (∀ b o, h.get? b = some o → h'.get? b = some o) → R (.ok (.ret (.ref q))) ⟨h', g, d, k, os⟩) :
    codeAny (model prog w) A (.call (.builtin "wrapper_descriptor.__get__") ⟨[.builtin "str.__getitem__", .str x u, .type "str"], []⟩) R ⟨h, g, d, t, os⟩ := by
  have hT : (⟨h, g, d, t, os⟩ : Shared).TypeIs (.str x u) "str" := rfl
  have hT5 : (⟨h, g, d, t, os⟩ : Shared).TypeIs (.builtin "str.__getitem__") "wrapper_descriptor" := ty_str_gi
  have f8 := sub_str_gi
  refine codeAny_call_builtin slot_wd_get.plain entry_wd_get (slot_wd_get.check _ _ _ _ _ _ _ _ hT5 (args_wd_get _ _ _) ?_)
  repeat (any_goals (first | assumption | wp_step))
  exact hq _ _ _ fun b o e => Heap.get?_push_of_some _ e

theorem ga_entry_str {Q : Fin → Shared → Prop} (hq : ∀ q h' k, (∀ b o, h.get? b = some o → h'.get? b = some o) → Q (.done (.ret (.ref q))) ⟨h', g, d, k, os⟩) :
    wpAny (model prog w) A (Builtin.«object.__getattribute__» ⟨[.str x u, .str "__getitem__" tk], []⟩) Q E ⟨h, g, d, t, os⟩ := by
  have hT : (⟨h, g, d, t, os⟩ : Shared).TypeIs (.str x u) "str" := rfl
  have f4 := lk_str_gi
  have f5 := ty_str_gi
  have f6 := slot_wd_get.lookup
  have f7 := lk_wd_set
  have f8 := lk_wd_del
  repeat (any_goals (first | assumption | wp_step))
  refine wd_get_str fun v h' k hk => ?_
  repeat (any_goals (first | assumption | wp_step))
  exact hq _ _ _ hk
theorem ga_call_str {R : Result → Shared → Prop} (hq : ∀ q h' k, (∀ b o, h.get? b = some o → h'.get? b = some o) → R (.ok (.ret (.ref q))) ⟨h', g, d, k, os⟩) :
    codeAny (model prog w) A (.call (.builtin "object.__getattribute__") ⟨[.str x u, .str "__getitem__" tk], []⟩) R ⟨h, g, d, t, os⟩ :=
  codeAny_call_builtin F.slot_str_getattribute.plain F.entry_object_getattribute (F.slot_str_getattribute.check _ _ _ _ _ _ _ _ (show (⟨h, g, d, t, os⟩ : Shared).TypeIs (.str x u) "str" from rfl) (F.args_object_getattribute_2 _ _) (ga_entry_str fun v h' k hk => hq v h' k hk))
theorem by_str {Q : Value → Shared → Prop} (hq : ∀ q h' k, (∀ b o, h.get? b = some o → h'.get? b = some o) → Q (.ref q) ⟨h', g, d, k, os⟩) : wpAny (model prog w) A (getAttrBy (.str x u) (.str "__getitem__" tk) false) Q E ⟨h, g, d, t, os⟩ := by
  have hT : (⟨h, g, d, t, os⟩ : Shared).TypeIs (.str x u) "str" := rfl
  have f2 := F.slot_str_getattribute.lookup
  have f3 := F.slot_str_getattribute.bind (.str x u)
  repeat (any_goals (first | assumption | wp_step))
  refine ga_call_str fun v h' k hk => ?_
  repeat (any_goals (first | assumption | wp_step))
  exact hq _ _ _ hk
theorem hasattr_str {Q : Value → Shared → Prop} {u tk : Tok} (hq : ∀ h' k, (∀ b o, h.get? b = some o → h'.get? b = some o) → Q (.bool true) ⟨h', g, d, k, os⟩) :
    wpAny (model prog w) A (call (.builtin "hasattr") [.str x u, .str "__getitem__" tk]) Q E ⟨h, g, d, t, os⟩ := by
  have hT : (⟨h, g, d, t, os⟩ : Shared).TypeIs (.str x u) "str" := rfl
  have f2 := lk_str_gi
  have f3 := F.slot_str_getattribute.lookup
  refine Calls.call_function_entry kind_hasattr plain_hasattr entry_hasattr (args_hasattr_2 _ _) ?_
  unfold Builtin.«hasattr»
  refine wpAny_bind (wpAny_of_eq (a := [.str x u, .str "__getitem__" tk]) (by first | rfl | kernel_rfl) ?_)
  dsimp only
  repeat (any_goals (first | assumption | with_reducible refine by_str ?_ | wp_step))
  intro q h' k hk
  repeat (any_goals (first | assumption | wp_step))
  exact ⟨_, rfl, hq _ _ hk⟩
end

section
variable {prog : Program} {w : World} {A : Around} {E : Value → Shared → Prop} {h : Heap} {g : Array GenState} {d : Drawn} {t : Nat} {os : OsState} {a : Addr} {xs : Array Value} {kk : Nat} {sl : Array (Option Value)} {tk : Tok}
theorem md_get_list {R : Result → Shared → Prop} (hx : h.get? a = some { cls := .type "list", dict := none, data := .seq xs kk, slots := sl }) (hq : ∀ q h' k, (∀ b o, h.get? b = some o → h'.get? b = some o) → R (.ok (.ret (.ref q))) ⟨h', g, d, k, os⟩) :
    codeAny (model prog w) A (.call (.builtin "method_descriptor.__get__") ⟨[.builtin "list.__getitem__", .ref a, .type "list"], []⟩) R ⟨h, g, d, t, os⟩ := by
  have hT : (⟨h, g, d, t, os⟩ : Shared).TypeIs (.ref a) "list" := ⟨_, hx, rfl⟩
  have hT5 : (⟨h, g, d, t, os⟩ : Shared).TypeIs (.builtin "list.__getitem__") "method_descriptor" := ty_list_gi
  have f8 := sub_list_gi
  refine codeAny_call_builtin slot_md_get.plain entry_md_get (slot_md_get.check _ _ _ _ _ _ _ _ hT5 (args_md_get _ _ _) ?_)
  repeat (any_goals (first | assumption | wp_step))
  exact hq _ _ _ fun b o e => Heap.get?_push_of_some _ e
theorem ga_entry_list {Q : Fin → Shared → Prop} (hx : h.get? a = some { cls := .type "list", dict := none, data := .seq xs kk, slots := sl }) (hq : ∀ q h' k, (∀ b o, h.get? b = some o → h'.get? b = some o) → Q (.done (.ret (.ref q))) ⟨h', g, d, k, os⟩) :
    wpAny (model prog w) A (Builtin.«object.__getattribute__» ⟨[.ref a, .str "__getitem__" tk], []⟩) Q E ⟨h, g, d, t, os⟩ := by
  have hT : (⟨h, g, d, t, os⟩ : Shared).TypeIs (.ref a) "list" := ⟨_, hx, rfl⟩
  have f4 := lk_list_gi
  have f5 := ty_list_gi
  have f6 := slot_md_get.lookup
  have f7 := lk_md_set
  have f8 := lk_md_del
  repeat (any_goals (first | assumption | wp_step))
  refine md_get_list hx fun v h' k hk => ?_
  repeat (any_goals (first | assumption | wp_step))
  exact hq _ _ _ hk
theorem ga_call_list {R : Result → Shared → Prop} (hx : h.get? a = some { cls := .type "list", dict := none, data := .seq xs kk, slots := sl }) (hq : ∀ q h' k, (∀ b o, h.get? b = some o → h'.get? b = some o) → R (.ok (.ret (.ref q))) ⟨h', g, d, k, os⟩) :
    codeAny (model prog w) A (.call (.builtin "list.__getattribute__") ⟨[.ref a, .str "__getitem__" tk], []⟩) R ⟨h, g, d, t, os⟩ :=
  codeAny_call_builtin F.slot_list_getattribute.plain F.entry_list_ga (F.slot_list_getattribute.check _ _ _ _ _ _ _ _ (show (⟨h, g, d, t, os⟩ : Shared).TypeIs (.ref a) "list" from ⟨_, hx, rfl⟩) (F.args_list_getattribute_2 _ _) (ga_entry_list hx fun v h' k hk => hq v h' k hk))
theorem by_list {Q : Value → Shared → Prop} (hx : h.get? a = some { cls := .type "list", dict := none, data := .seq xs kk, slots := sl }) (hq : ∀ q h' k, (∀ b o, h.get? b = some o → h'.get? b = some o) → Q (.ref q) ⟨h', g, d, k, os⟩) : wpAny (model prog w) A (getAttrBy (.ref a) (.str "__getitem__" tk) false) Q E ⟨h, g, d, t, os⟩ := by
  have hT : (⟨h, g, d, t, os⟩ : Shared).TypeIs (.ref a) "list" := ⟨_, hx, rfl⟩
  have f2 := F.slot_list_getattribute.lookup
  have f3 := F.slot_list_getattribute.bind (.ref a)
  repeat (any_goals (first | assumption | wp_step))
  refine ga_call_list hx fun v h' k hk => ?_
  repeat (any_goals (first | assumption | wp_step))
  exact hq _ _ _ hk
theorem hasattr_list {Q : Value → Shared → Prop} (hx : h.get? a = some { cls := .type "list", dict := none, data := .seq xs kk, slots := sl }) (hq : ∀ h' k, (∀ b o, h.get? b = some o → h'.get? b = some o) → Q (.bool true) ⟨h', g, d, k, os⟩) :
    wpAny (model prog w) A (call (.builtin "hasattr") [.ref a, .str "__getitem__" tk]) Q E ⟨h, g, d, t, os⟩ := by
  have hT : (⟨h, g, d, t, os⟩ : Shared).TypeIs (.ref a) "list" := ⟨_, hx, rfl⟩
  have f2 := lk_list_gi
  have f3 := F.slot_list_getattribute.lookup
  have f4 := sub_list_module
  refine Calls.call_function_entry kind_hasattr plain_hasattr entry_hasattr (args_hasattr_2 _ _) ?_
  unfold Builtin.«hasattr»
  refine wpAny_bind (wpAny_of_eq (a := [.ref a, .str "__getitem__" tk]) (by first | rfl | kernel_rfl) ?_)
  dsimp only
  repeat (any_goals (first | assumption | with_reducible refine by_list hx ?_ | wp_step))
  intro q h' k hk
  repeat (any_goals (first | assumption | wp_step))
  exact ⟨_, rfl, hq _ _ hk⟩
end
end Mine

-- part L3
namespace Mine
set_option maxRecDepth 100000
set_option maxHeartbeats 8000000
theorem foldl_q : ∀ (k : Nat) (acc : List Nat), (List.replicate k (#[34] : Array Nat)).foldl (· ++ ·) acc.toArray = (acc ++ rep k).toArray
  | 0, acc => by simp [rep]
  | k + 1, acc => by
    rw [List.replicate_succ, List.foldl_cons]
    have e : acc.toArray ++ (#[34] : Array Nat) = (acc ++ [34]).toArray := by simp
    rw [e, foldl_q k (acc ++ [34])]
    simp [rep, List.replicate_succ]
theorem mul_q (i : Int) : Txt.mul (S [34]) i = S (rep i.toNat) := by
  unfold Txt.mul
  by_cases h1 : i < 1
  · rw [if_pos h1]
    have : i.toNat = 0 := by omega
    rw [this]; rfl
  · rw [if_neg h1]
    by_cases h2 : i = 1
    · subst h2; rfl
    · have e : (i == 1 || (S [34]).length == 0) = false := by
        have : (i == 1) = false := by simpa using h2
        rw [this, S_len]; rfl
      rw [e]
      simp only [Bool.false_eq_true, if_false]
      have := foldl_q i.toNat []
      simp only [List.nil_append] at this
      show (⟨(List.replicate i.toNat (#[34] : Array Nat)).foldl (· ++ ·) #[]⟩ : Str) = S (rep i.toNat)
      rw [show (#[] : Array Nat) = ([] : List Nat).toArray from rfl, this]
      rfl
section
variable {prog : Program} {w : World} {A : Around} {E : Value → Shared → Prop} {s : Shared} {t u tk : Tok} {x : Str} {Q : Value → Shared → Prop} {h₀ : Heap} {L : Addr} {m : Str → Option Value} {news : List (Addr × Obj)}
theorem mul_rep {i : Int} (hz : x = S [34]) (h0 : 0 ≤ i) (h1 : i ≤ 1000000) (n : Nat) (hn : i.toNat = n) (h : ∀ t' k, Q (.str (S (rep n)) t') { s with toks := k }) : wpAny (model prog w) A (binaryOp .Mult (.str x t) (.int i u)) Q E s := by
  subst hz
  exact KXi.mul (n := 1) (S_len _) (by decide) (by omega) (by omega) fun t' k _ _ => by rw [mul_q, hn]; exact h t' k
theorem has_str (F : Fr h₀ L s.heap m) (N : News h₀ L s.heap news) (h : ∀ h' k, Fr h₀ L h' m → News h₀ L h' news → Q (.bool true) { s with heap := h', toks := k }) :
    wpAny (model prog w) A (call (.builtin "hasattr") [.str x u, .str "__getitem__" tk]) Q E s := by
  obtain ⟨hh, g, d, t, os⟩ := s
  exact hasattr_str fun h' k hk => h h' k (F.keeps hk) (N.grown hk)
theorem has_list {a : Addr} {xs : Array Value} {kk : Nat} (F : Fr h₀ L s.heap m) (N : News h₀ L s.heap news) (hx : s.heap.get? a = some (listOf xs kk)) (h : ∀ h' k, Fr h₀ L h' m → News h₀ L h' news → Q (.bool true) { s with heap := h', toks := k }) :
    wpAny (model prog w) A (call (.builtin "hasattr") [.ref a, .str "__getitem__" tk]) Q E s := by
  obtain ⟨hh, g, d, t, os⟩ := s
  exact hasattr_list hx fun h' k hk => h h' k (F.keeps hk) (N.grown hk)
end
theorem cb_use {prog : Program} {w : World} {K : Frag} {p : Program} {loose : List Str} {mean : ExcName → Option Value} {mg mb : Str → Option Value} {f : Addr} {news : List (Addr × Obj)} {pre : Prop} {vs : List Value} {R : Tok → Value}
    {dp un : Nat} {gd : Option (List Code)} {cn : Str} {cs : Scope} {a : Addr} {ccd : Value} {cl : List (Str × Addr)} {outer : List Env} {A₀ : Around} {base h₀ : Heap} {L : Addr} {m : Str → Option Value} {s : Shared} {Q E : Value → Shared → Prop}
    (C : CbClaim prog w K p loose mean mg mb f news [] pre vs R) (B : Below A₀ base outer h₀) (F : Fr h₀ L s.heap m) (X : K.In h₀) (N : News h₀ L s.heap news) (T : Top p loose mean mg mb h₀) (hk : cs.kind = .function)
    (hp : pre) (hd : dp + 1 < recursionLimit) (hu : un + 8 < cLine) (h : ∀ t h' tk', Fr h₀ L h' m → News h₀ L h' news → Q (R t) { s with heap := h', toks := tk' }) :
    wpAny (model prog w) (ktrTop dp un gd cn cs L a ccd cl outer) (call (.ref f) vs) Q E s := C _ _ _ _ _ _ _ _ _ _ _ _ _ _ _ _ _ B F X N T hk hp hd hu h

/-- a def's contract: its return and what it adds to the ledger -/
abbrev Clm (D U : Nat) (prog : Program) (w : World) (K : Frag) (p : Program) (loose : List Str) (mean : ExcName → Option Value) (mg mb : Str → Option Value) (f : Addr) (news : List (Addr × Obj)) (pre : Prop) (vs : List Value) (R : Value → List (Addr × Obj) → Prop) : Prop :=
  ∀ (dp un : Nat) (gd : Option (List Code)) (cn : Str) (cs : Scope) (a : Addr) (ccd : Value) (cl : List (Str × Addr)) (outer : List Env) (A₀ : Around) (base h₀ : Heap) (L : Addr) (m : Str → Option Value) (s : Shared) (Q E : Value → Shared → Prop),
    Below A₀ base outer h₀ → Fr h₀ L s.heap m → K.In h₀ → News h₀ L s.heap news → Top p loose mean mg mb h₀ → cs.kind = .function →
    pre → dp + D < recursionLimit → un + U < cLine → (∀ v add h' tk', R v add → Fr h₀ L h' m → News h₀ L h' (add ++ news) → (∀ q ∈ add, ∀ p ∈ news, p.1 ≠ q.1) → Q v { s with heap := h', toks := tk' }) →
      wpAny (model prog w) (ktrTop dp un gd cn cs L a ccd cl outer) (call (.ref f) vs) Q E s
theorem cm_use {D U : Nat} {prog : Program} {w : World} {K : Frag} {p : Program} {loose : List Str} {mean : ExcName → Option Value} {mg mb : Str → Option Value} {f : Addr} {news : List (Addr × Obj)} {pre : Prop} {vs : List Value} {R : Value → List (Addr × Obj) → Prop}
    {dp un : Nat} {gd : Option (List Code)} {cn : Str} {cs : Scope} {a : Addr} {ccd : Value} {cl : List (Str × Addr)} {outer : List Env} {A₀ : Around} {base h₀ : Heap} {L : Addr} {m : Str → Option Value} {s : Shared} {Q E : Value → Shared → Prop}
    (C : Clm D U prog w K p loose mean mg mb f news pre vs R) (B : Below A₀ base outer h₀) (F : Fr h₀ L s.heap m) (X : K.In h₀) (N : News h₀ L s.heap news) (T : Top p loose mean mg mb h₀) (hk : cs.kind = .function)
    (hp : pre) (hd : dp + D < recursionLimit) (hu : un + U < cLine) (h : ∀ v add h' tk', R v add → Fr h₀ L h' m → News h₀ L h' (add ++ news) → (∀ q ∈ add, ∀ p ∈ news, p.1 ≠ q.1) → Q v { s with heap := h', toks := tk' }) :
    wpAny (model prog w) (ktrTop dp un gd cn cs L a ccd cl outer) (call (.ref f) vs) Q E s := C _ _ _ _ _ _ _ _ _ _ _ _ _ _ _ _ _ B F X N T hk hp hd hu h
end Mine

-- part L4
namespace Mine
set_option maxRecDepth 100000
set_option maxHeartbeats 8000000
/-- a def's contract that tells of the tokens: what it hands back is younger than its start -/
abbrev ClmT (D U : Nat) (prog : Program) (w : World) (K : Frag) (p : Program) (loose : List Str) (mean : ExcName → Option Value) (mg mb : Str → Option Value) (f : Addr) (news : List (Addr × Obj)) (pre : Nat → Prop) (vs : List Value) (R : Nat → Nat → Value → List (Addr × Obj) → Prop) : Prop :=
  ∀ (dp un : Nat) (gd : Option (List Code)) (cn : Str) (cs : Scope) (a : Addr) (ccd : Value) (cl : List (Str × Addr)) (outer : List Env) (A₀ : Around) (base h₀ : Heap) (L : Addr) (m : Str → Option Value) (s : Shared) (Q E : Value → Shared → Prop),
    Below A₀ base outer h₀ → Fr h₀ L s.heap m → K.In h₀ → News h₀ L s.heap news → Top p loose mean mg mb h₀ → cs.kind = .function →
    pre s.toks → dp + D < recursionLimit → un + U < cLine → (∀ v add h' tk', s.toks ≤ tk' → R s.toks tk' v add → Fr h₀ L h' m → News h₀ L h' (add ++ news) → (∀ q ∈ add, ∀ p ∈ news, p.1 ≠ q.1) → Q v { s with heap := h', toks := tk' }) →
      wpAny (model prog w) (ktrTop dp un gd cn cs L a ccd cl outer) (call (.ref f) vs) Q E s
theorem ct_use {D U : Nat} {prog : Program} {w : World} {K : Frag} {p : Program} {loose : List Str} {mean : ExcName → Option Value} {mg mb : Str → Option Value} {f : Addr} {news : List (Addr × Obj)} {pre : Nat → Prop} {vs : List Value} {R : Nat → Nat → Value → List (Addr × Obj) → Prop}
    {dp un : Nat} {gd : Option (List Code)} {cn : Str} {cs : Scope} {a : Addr} {ccd : Value} {cl : List (Str × Addr)} {outer : List Env} {A₀ : Around} {base h₀ : Heap} {L : Addr} {m : Str → Option Value} {s : Shared} {Q E : Value → Shared → Prop}
    (C : ClmT D U prog w K p loose mean mg mb f news pre vs R) (B : Below A₀ base outer h₀) (F : Fr h₀ L s.heap m) (X : K.In h₀) (N : News h₀ L s.heap news) (T : Top p loose mean mg mb h₀) (hk : cs.kind = .function)
    (hp : pre s.toks) (hd : dp + D < recursionLimit) (hu : un + U < cLine) (h : ∀ v add h' tk', s.toks ≤ tk' → R s.toks tk' v add → Fr h₀ L h' m → News h₀ L h' (add ++ news) → (∀ q ∈ add, ∀ p ∈ news, p.1 ≠ q.1) → Q v { s with heap := h', toks := tk' }) :
    wpAny (model prog w) (ktrTop dp un gd cn cs L a ccd cl outer) (call (.ref f) vs) Q E s := C _ _ _ _ _ _ _ _ _ _ _ _ _ _ _ _ _ B F X N T hk hp hd hu h

def WStep (h₀ : Heap) (L : Addr) (s : Shared) (J : Nat → (Str → Option Value) → List (Addr × Obj) → Nat → Prop) (Q : Flow → Shared → Prop) (n : Nat) (f : Flow) (s₃ : Shared) : Prop :=
  match f with
  | .brk => Q .next s₃
  | .ret v => Q (.ret v) s₃
  | _ => ∃ h' tk m₂ news₂ n', s₃ = { s with heap := h', toks := tk } ∧ Fr h₀ L h' m₂ ∧ News h₀ L h' news₂ ∧ n' < n ∧ J n' m₂ news₂ tk
theorem wstep_next {h₀ h' : Heap} {L : Addr} {s : Shared} {J : Nat → (Str → Option Value) → List (Addr × Obj) → Nat → Prop} {Q : Flow → Shared → Prop} {n n' tk : Nat} {m₂ : Str → Option Value} {news₂ : List (Addr × Obj)}
    (F : Fr h₀ L h' m₂) (N : News h₀ L h' news₂) (hn : n' < n) (hJ : J n' m₂ news₂ tk) : WStep h₀ L s J Q n .next { s with heap := h', toks := tk } := ⟨h', tk, m₂, news₂, n', rfl, F, N, hn, hJ⟩
section
variable {prog : Program} {w : World} {A : Around} {E : Value → Shared → Prop} {Q : Flow → Shared → Prop} {s : Shared} {env : Env} {h₀ : Heap} {L : Addr}
theorem While_t {test : Expr} {body : List Stmt} {pos : Pos} {m : Str → Option Value} {news : List (Addr × Obj)} (J : Nat → (Str → Option Value) → List (Addr × Obj) → Nat → Prop) {n₀ : Nat}
    (F : Fr h₀ L s.heap m) (N : News h₀ L s.heap news) (hJ : J n₀ m news s.toks)
    (turn : ∀ n m₁ news₁ h₁ tk₁ (R : Flow → Shared → Prop) (Z : Shared → Prop) (E' : Value → Shared → Prop), Fr h₀ L h₁ m₁ → News h₀ L h₁ news₁ → J n m₁ news₁ tk₁ → (∀ f s₃, WStep h₀ L s J Q n f s₃ → R f s₃) → (∀ s₂, Q .next s₂ → Z s₂) →
      wpAny (model prog w) A (isTrue test env (eval test env)) (fun b s₂ => if b = true then wpAny (model prog w) A (execs body env) R E' s₂ else Z s₂) E' { s with heap := h₁, toks := tk₁ })
    (hE : PassesOwn (model prog w) A env E) :
    wpAny (model prog w) A (exec (.While test body [] pos) env) Q E s := by
  refine wpAny_While (codeAny_whileLoop (fun n s' => ∃ h₁ tk₁ m₁ news₁, s' = { s with heap := h₁, toks := tk₁ } ∧ Fr h₀ L h₁ m₁ ∧ News h₀ L h₁ news₁ ∧ J n m₁ news₁ tk₁) (fun n s' hs => ?_) n₀ ⟨s.heap, s.toks, m, news, rfl, F, N, hJ⟩)
  obtain ⟨h₁, tk₁, m₁, news₁, rfl, F₁, N₁, J₁⟩ := hs
  refine wpAny_mono (turn n m₁ news₁ h₁ tk₁ _ _ _ F₁ N₁ J₁ (fun _ _ q => q) (fun _ q => q)) (fun b s₂ h₂ => ?_) hE
  cases b with
  | false => simp only [Bool.false_eq_true, if_false] at h₂ ⊢; exact wpAny_execs_nil h₂
  | true =>
    simp only [if_true] at h₂ ⊢
    refine wpAny_mono h₂ (fun f s₃ h₃ => ?_) hE
    have step : (∃ h' tk m₂ news₂ n', s₃ = { s with heap := h', toks := tk } ∧ Fr h₀ L h' m₂ ∧ News h₀ L h' news₂ ∧ n' < n ∧ J n' m₂ news₂ tk) →
        ∃ m, m < n ∧ ∃ h₁ tk₁ m₁ news₁, s₃ = { s with heap := h₁, toks := tk₁ } ∧ Fr h₀ L h₁ m₁ ∧ News h₀ L h₁ news₁ ∧ J m m₁ news₁ tk₁ :=
      fun ⟨h', tk, m₂, news₂, n', e, F₂, N₂, hn, J₂⟩ => ⟨n', hn, h', tk, m₂, news₂, e, F₂, N₂, J₂⟩
    cases f with
    | next => exact step h₃
    | cont => exact step h₃
    | brk => exact h₃
    | ret v => exact h₃
theorem While_inv3 {test : Expr} {body : List Stmt} {pos : Pos} {m : Str → Option Value} {news : List (Addr × Obj)} (J : Nat → (Str → Option Value) → List (Addr × Obj) → Prop) {n₀ : Nat}
    (F : Fr h₀ L s.heap m) (N : News h₀ L s.heap news) (hJ : J n₀ m news)
    (turn : ∀ n m₁ news₁ h₁ tk₁ (R : Flow → Shared → Prop) (Z : Shared → Prop) (E' : Value → Shared → Prop), Fr h₀ L h₁ m₁ → News h₀ L h₁ news₁ → J n m₁ news₁ → (∀ f s₃, WhileStep2 h₀ L s J Q n f s₃ → R f s₃) → (∀ s₂, Q .next s₂ → Z s₂) →
      wpAny (model prog w) A (isTrue test env (eval test env)) (fun b s₂ => if b = true then wpAny (model prog w) A (execs body env) R E' s₂ else Z s₂) E' { s with heap := h₁, toks := tk₁ })
    (hE : PassesOwn (model prog w) A env E) :
    wpAny (model prog w) A (exec (.While test body [] pos) env) Q E s :=
  While_inv2 J F N hJ (fun n m₁ news₁ h₁ tk₁ F₁ N₁ J₁ => turn n m₁ news₁ h₁ tk₁ _ _ _ F₁ N₁ J₁ (fun _ _ q => q) fun _ q => q) hE
theorem execs_cons_t {st : Stmt} {rest : List Stmt} {h : Heap} {g : Array GenState} {d : Drawn} {tk : Nat} {os : OsState}
    (H : ∀ tk', tk ≤ tk' → wpAny (model prog w) A (exec st env) (fun f s' => match f with | .next => wpAny (model prog w) A (execs rest env) Q E s' | f => Q f s') E ⟨h, g, d, tk', os⟩) :
    wpAny (model prog w) A (execs (st :: rest) env) Q E ⟨h, g, d, tk, os⟩ := wpAny_execs_cons (H tk (Nat.le_refl _))
theorem with_t {α : Type} {t : Sem α} {Q : α → Shared → Prop} {h : Heap} {g : Array GenState} {d : Drawn} {tk : Nat} {os : OsState}
    (H : wpAny (model prog w) A t (fun a s' => tk ≤ s'.toks → Q a s') (fun e s' => tk ≤ s'.toks → E e s') ⟨h, g, d, tk, os⟩) : wpAny (model prog w) A t Q E ⟨h, g, d, tk, os⟩ := wpAny_with_toks (Nat.le_refl _) H
end
section
variable {prog : Program} {w : World} {A : Around} {E : Value → Shared → Prop} {s : Shared} {a b : List Nat} {y z : Str} {t u : Tok} {Q : Value → Shared → Prop}
/-- a sum of texts, with the tokens told -/
theorem add_St (hz : z = S a) (hy : y = S b) (hl : a.length + b.length ≤ 1000000)
    (h : ∀ (t' k : Nat), s.toks ≤ k → (@Eq Nat t' s.toks ∧ @LT.lt Nat _ t' k ∨ a = [] ∧ @Eq Nat t' u ∨ b = [] ∧ @Eq Nat t' t) → Q (.str (S (a ++ b)) t') { s with toks := k }) : wpAny (model prog w) A (binaryOp .Add (.str z t) (.str y u)) Q E s := by
  subst hz hy
  refine PySem.P.add_str ?_
  rw [S_len, S_len]
  cases a with
  | nil => exact h u s.toks (Nat.le_refl _) (.inr (.inl ⟨rfl, rfl⟩))
  | cons x r =>
    have e1 : ((x :: r).length == 0) = false := rfl
    rw [e1]
    simp only [Bool.false_eq_true, if_false]
    cases b with
    | nil =>
      have := h t s.toks (Nat.le_refl _) (.inr (.inr ⟨rfl, rfl⟩))
      rw [List.append_nil] at this
      exact this
    | cons x' r' =>
      have e2 : ((x' :: r').length == 0) = false := rfl
      rw [e2]
      simp only [Bool.false_eq_true, if_false]
      refine ⟨?_, ?_⟩
      · rw [S_add, S_len, List.length_append, sizeLine_eq]; omega
      · rw [S_add]; exact h s.toks (s.toks + 1) (Nat.le_succ _) (.inl ⟨rfl, Nat.lt_succ_self _⟩)
end

/-- all of these tokens' counts lie behind -/
def Tks (l : List Nat) (k : Nat) : Prop := ∀ a ∈ l, a ≤ k
theorem Tks.add {l : List Nat} {k n : Nat} (h : Tks l k) : Tks l (k + n) := fun a ha => Nat.le_trans (h a ha) (Nat.le_add_right _ _)
theorem Tks.up {l : List Nat} {k n : Nat} (h : Tks l k) (hn : k ≤ n) : Tks l n := fun a ha => Nat.le_trans (h a ha) hn
theorem Tks.cons {l : List Nat} {k a : Nat} (h : Tks l k) (ha : a ≤ k) : Tks (a :: l) k := fun b hb => by
  rcases List.mem_cons.mp hb with rfl | hb
  · exact ha
  · exact h b hb
theorem Tks.one (k : Nat) : Tks [k] k := fun a ha => by rw [List.mem_singleton.mp ha]; exact Nat.le_refl _
theorem Tks.hd {l : List Nat} {a k : Nat} (h : Tks (a :: l) k) : a ≤ k := h a List.mem_cons_self
theorem Tks.tl {l : List Nat} {a k : Nat} (h : Tks (a :: l) k) : Tks l k := fun b hb => h b (List.mem_cons_of_mem _ hb)
section
variable {prog : Program} {w : World} {A : Around} {E : Value → Shared → Prop} {env : Env}
theorem execs_cons_k {st : Stmt} {rest : List Stmt} {Q : Flow → Shared → Prop} {l : List Nat} {h : Heap} {g : Array GenState} {d : Drawn} {tk : Nat} {os : OsState} (hB : Tks l tk)
    (H : ∀ tk', Tks l tk' → wpAny (model prog w) A (exec st env) (fun f s' => match f with | .next => wpAny (model prog w) A (execs rest env) Q E s' | f => Q f s') E ⟨h, g, d, tk', os⟩) :
    wpAny (model prog w) A (execs (st :: rest) env) Q E ⟨h, g, d, tk, os⟩ := wpAny_execs_cons (H tk hB)
theorem with_k {α : Type} {t : Sem α} {Q : α → Shared → Prop} {l : List Nat} {h : Heap} {g : Array GenState} {d : Drawn} {tk : Nat} {os : OsState} (hB : Tks l tk)
    (H : wpAny (model prog w) A t (fun a s' => Tks l s'.toks → Q a s') (fun e s' => Tks l s'.toks → E e s') ⟨h, g, d, tk, os⟩) : wpAny (model prog w) A t Q E ⟨h, g, d, tk, os⟩ :=
  wpAny_mono (wpAny_toks H) (fun _ _ x => x.2 (hB.up x.1)) (fun _ _ x => x.2 (hB.up x.1))
end
end Mine

-- part Base
namespace Mine
set_option maxRecDepth 100000
set_option maxHeartbeats 8000000
open_top hd for PySem.Challenge.rw_wn0056_01
end Mine

-- part Cmp
namespace Mine
set_option maxRecDepth 100000
set_option maxHeartbeats 4000000
open PyProof.Rows.LCg (lst)

def VarAt (x : Str) (oc : Bool) (u : Addr) (h : Heap) (v : Value) : Prop := if oc = true then h.IsCell u (some v) else ∃ m, h.Ns u m ∧ m x = some v
def Loc (C : Addr) (oc : Bool) (u : Addr) (h : Heap) : Prop := (∃ m, h.Ns C m) ∧ (oc = true → C ≠ u ∧ ∃ v₀, h.IsCell u v₀) ∧ (oc = false → C = u)
theorem Loc.there {C : Addr} {oc : Bool} {u : Addr} {h : Heap} (l : Loc C oc u h) : ∃ o, h.get? u = some o := by
  cases oc with
  | false => obtain ⟨⟨m, o, _, _, e, _⟩, _, h2⟩ := l; exact ⟨o, h2 rfl ▸ e⟩
  | true => obtain ⟨_, h1, _⟩ := l; obtain ⟨_, v₀, o, e, _⟩ := h1 rfl; exact ⟨o, e⟩
theorem Loc.keeps {C : Addr} {oc : Bool} {u : Addr} {h h' : Heap} (l : Loc C oc u h) (k : ∀ b o, b = C ∨ b = u → h.get? b = some o → h'.get? b = some o) : Loc C oc u h' :=
  ⟨let ⟨m, x⟩ := l.1; ⟨m, x.at' fun o e => k _ _ (.inl rfl) e⟩, fun e => let ⟨a, v, o, b, c⟩ := l.2.1 e; ⟨a, v, o, k _ _ (.inr rfl) b, c⟩, l.2.2⟩
theorem VarAt.keeps {x : Str} {oc : Bool} {u : Addr} {h h' : Heap} {v : Value} (l : VarAt x oc u h v) (k : ∀ b o, h.get? b = some o → h'.get? b = some o) : VarAt x oc u h' v := by
  unfold VarAt at *
  cases oc with
  | false => obtain ⟨m, a, b⟩ := l; exact ⟨m, a.keeps k, b⟩
  | true => exact Heap.IsCell.keeps l k

section
variable {M : Model} {A : Around} {E : Value → Shared → Prop} {s : Shared}
theorem assign_var {cenv : Env} {x : Str} {px : Pos} {oc : Bool} {u : Addr} {v : Value} {Q : Unit → Shared → Prop} (hk : cenv.scope.kind = .function)
    (hx : cenv.kindOf x = some (if oc = true then .cell else .local)) (hu : oc = true → cenv.cells.lookup x = some u) (hl : Loc cenv.locals oc u s.heap)
    (h : ∀ h' k, (oc = false → 0 < k) → Loc cenv.locals oc u h' → VarAt x oc u h' v → Heap.SameBut u s.heap h' → Q () { s with heap := h', toks := k }) : wpAny M A (assign (.Name x px) cenv v) Q E s := by
  refine wpAny_assign_Name ?_
  cases oc with
  | false =>
    obtain ⟨⟨m, hn⟩, _, hC⟩ := hl
    have hC := hC rfl
    refine wpAny_storeName_local hx hn (fun h' hn' hs => ?_) (by simp [hk])
    exact h h' _ (fun _ => Nat.succ_pos _) ⟨⟨_, hn'⟩, (fun e => nomatch e), fun _ => hC⟩ (by show ∃ m, _; exact ⟨_, hC ▸ hn', by simp⟩) (hC ▸ hs)
  | true =>
    obtain ⟨⟨m, hn⟩, hc, _⟩ := hl
    obtain ⟨hne, v₀, hcell⟩ := hc rfl
    refine wpAny_storeName_cell hk hx (hu rfl) hcell fun h' hv hs => ?_
    exact h h' _ (fun e => nomatch e) ⟨⟨m, hn.sameBut hs hne⟩, fun _ => ⟨hne, _, hv⟩, (fun e => nomatch e)⟩ hv hs

/-- the frame of a comprehension: its dict, its one own cell -/
theorem comp_env {scope : Scope} {globals : Addr} {qual : Str} {env : Env} {cl : List (Str × Addr)} {Q : Env → Shared → Prop}
    (h : Q (newEnv scope s.heap.objs.size globals (cellsFrom (s.heap.objs.size + 1) scope.names cl) qual none .none (some env) builtinsNs) { s with heap := pushCells (s.heap.push { cls := .type "dict", data := .dict #[] }) scope.names }) :
    wpAny M A (newFunctionEnv scope globals cl [] qual none .none (some env)) Q E s := by
  simp only [newFunctionEnv, Option.isSome_some, if_true]
  refine wpAny_bind (wpAny_alloc ?_)
  refine wpAny_bind (wpAny_layCells _ (fun name kind cells => by cases hkc : kind == NameKind.cell <;> simp) _ _ _ _ ?_)
  rw [show ({ s with heap := s.heap.push { cls := .type "dict", data := .dict #[] } } : Shared).heap.objs.size = s.heap.objs.size + 1 from Heap.size_push ..]
  rw [List.forIn_nil]
  exact wpAny_bind (wpAny_pure (wpAny_pure h))
end

section
variable {prog : Program} {w : World} {A : Around} {E : Value → Shared → Prop} {s : Shared} {env : Env}
abbrev Tests (prog : Program) (w : World) (A : Around) (ifs : List Expr) (cenv : Env) (Q : Bool → Shared → Prop) (E : Value → Shared → Prop) (s : Shared) : Prop :=
  wpAny (model prog w) A (forIn ifs true fun c r => if r = true then do let ok ← isTrue c cenv (eval c cenv); pure (ForInStep.yield ok) else pure (ForInStep.yield r)) Q E s

/-- one clause, its target a local or the one own cell; what the turns do keeps all that stood -/
theorem lt_turn {i n : Nat} (h : i < n) : n + 1 - (i + 1) < n + 1 - i := by omega
inductive KInv (s₂ : Shared) (n : Nat) (St : Nat → Heap → Prop) (C D I u : Addr) (oc : Bool) (J : Nat → List Value → Heap → Nat → Prop) : Nat → Shared → Prop where
  | mk (h' : Heap) (tk i : Nat) (ys : List Value) : i ≤ n → ys.length ≤ i → St i h' → Loc C oc u h' → h'.get? D = some (lst ys) → J i ys h' tk → (∀ b o, b ≠ I → s₂.heap.get? b = some o → h'.get? b = some o) → KInv s₂ n St C D I u oc J (n + 1 - i) { s₂ with heap := h', toks := tk }
theorem block_K {elt iter : Expr} {x : Str} {px : Pos} {ifs : List Expr} {scope : Scope} {cl : List (Str × Addr)} {pos : Pos} {s₂ : Shared} {I : Addr} {fp : List Addr} {n : Nat} {P : Nat → Value → Prop} {St : Nat → Heap → Prop} {oc : Bool} {C D u : Addr} {cenv : Env}
    {RR : Value → Addr → Result → Shared → Prop} (J : Nat → List Value → Heap → Nat → Prop)
    (W : Walks prog w A I fp [I] n P St) (hsz : n ≤ sizeLine) (hst : St 0 s₂.heap) (hfp : ∀ b ∈ fp, b < s₂.heap.objs.size) (hIfp : I ∈ fp) (hIo : ∀ i h, St i h → ∃ o, h.get? I = some o)
    (hD : D = s₂.heap.objs.size) (hC : C = D + 1) (hu : u = if oc = true then C + 1 else C) (hcenv : cenv = compEnvC scope (if oc = true then (x, u) :: cl else cl) C env)
    (hcells : cellsFrom (C + 1) scope.names cl = if oc = true then (x, C + 1) :: cl else cl)
    (hpush : ∀ h : Heap, pushCells h scope.names = if oc = true then h.push { cls := .type "cell", data := .cell none } else h)
    (hkind : scope.kind = .function) (hx : cenv.kindOf x = some (if oc = true then .cell else .local))
    (hJ : ∀ i ys h h' tk tk', J i ys h tk → tk ≤ tk' → (∀ b o, u < b → h.get? b = some o → h'.get? b = some o) → J i ys h' tk')
    (hJ0 : J 0 [] s₂.heap s₂.toks)
    (turn : ∀ i v ys h tk (E' : Value → Shared → Prop), i < n → (oc = false → 0 < tk) → P i v → J i ys h tk → VarAt x oc u h v → (∃ o, h.get? D = some o) → (∃ o, h.get? I = some o) → (∃ o, h.get? u = some o) → (∀ b o, b ≠ I → s₂.heap.get? b = some o → h.get? b = some o) →
      Tests prog w A ifs cenv (fun ok s₃ => Keeps { s₂ with heap := h, toks := tk } s₃ ∧ if ok = true then wpAny (model prog w) A (eval elt cenv) (fun y s₄ => Keeps s₃ s₄ ∧ J (i + 1) (ys ++ [y]) s₄.heap s₄.toks) E' s₃ else J (i + 1) ys s₃.heap s₃.toks) E' { s₂ with heap := h, toks := tk })
    (hRR : ∀ h tk m' ys, (∀ b o, b ≠ I → s₂.heap.get? b = some o → h.get? b = some o) → h.get? D = some (lst ys) → J n ys h tk → h.Ns C m' → RR (.ref D) C (.ok .next) { s₂ with heap := h, toks := tk }) :
    wpAny (model prog w) A (newList []) (fun acc s₃ => wpAny (model prog w) A (newFunctionEnv scope env.globals cl [] env.qual none .none (some env)) (fun cenv s₄ =>
      codeAny (model prog w) A (.compStart (.ListComp elt [⟨.Name x px, iter, ifs, 0⟩] scope pos) 0 (.ref I) acc { cenv with scope := relabel scope env }) (RR acc cenv.locals) s₄) E s₃) E s₂ := by
  have hIlt : I < s₂.heap.objs.size := hfp I hIfp
  have hCk : cenv.scope.kind = .function := by rw [hcenv]; exact hkind
  have hCl : cenv.locals = C := by rw [hcenv]; rfl
  have hcell : oc = true → cenv.cells.lookup x = some u := fun e => by rw [hcenv, e]; simp [compEnvC]
  refine wpAny_newObj_type (comp_env ?_)
  dsimp only
  have hsz1 : (s₂.heap.push { cls := .type "list", dict := none, data := .seq ([] : List Value).toArray }).objs.size = D + 1 := by rw [Heap.size_push, hD]
  rw [hsz1]
  generalize hH1 : s₂.heap.push { cls := .type "list", dict := none, data := .seq ([] : List Value).toArray } = H1 at hsz1 ⊢
  have e1 : ∀ b o, s₂.heap.get? b = some o → H1.get? b = some o := fun b o e => hH1 ▸ Heap.get?_push_of_some _ e
  have eD : H1.get? D = some (lst []) := by rw [hD, ← hH1]; exact Heap.get?_push_size _ rfl
  -- the heap ahead of the loop
  have hH2 : ∃ H2 : Heap, pushCells (H1.push { cls := .type "dict", data := .dict #[] }) scope.names = H2 ∧ (∀ b o, H1.get? b = some o → H2.get? b = some o) ∧ Loc C oc u H2 := by
    have a1 : (H1.push { cls := .type "dict", data := .dict #[] }).Ns C fun _ => none := by rw [hC, ← hsz1]; exact Heap.Ns.new _ _
    rw [hpush]
    cases oc with
    | false =>
      refine ⟨_, rfl, fun b o e => Heap.get?_push_of_some _ e, ⟨⟨_, a1⟩, (fun e => nomatch e), fun _ => ?_⟩⟩
      rw [hu]; rfl
    | true =>
      refine ⟨_, rfl, fun b o e => Heap.get?_push_of_some _ (Heap.get?_push_of_some _ e), ⟨⟨_, a1.push _⟩, fun _ => ⟨?_, none, { cls := .type "cell", data := .cell none }, ?_, rfl⟩, (fun e => nomatch e)⟩⟩
      · rw [hu]; exact Nat.ne_of_lt (Nat.lt_succ_self _)
      · have : u = (H1.push { cls := .type "dict", data := .dict #[] }).objs.size := by rw [Heap.size_push, hsz1, hu, hC]; rfl
        rw [this]; exact Heap.get?_push_size _ rfl
  obtain ⟨H2, hH2, k2, loc2⟩ := hH2
  have hne : newEnv scope (D + 1) env.globals (cellsFrom (D + 1 + 1) scope.names cl) env.qual none .none (some env) builtinsNs = newEnv scope C env.globals (if oc = true then (x, u) :: cl else cl) env.qual none .none (some env) builtinsNs := by
    rw [← hC, hcells, hu]
    cases oc <;> rfl
  rw [hne, hH2]
  have hu' : D < u := by
    rw [hu, hC]
    cases oc
    · exact Nat.lt_succ_self _
    · exact Nat.lt_succ_of_lt (Nat.lt_succ_self _)
  have aI : ∀ b, u < b → b ≠ I := fun b hb => Nat.ne_of_gt (Nat.lt_trans (Nat.lt_trans (hD ▸ hIlt) hu') hb)
  have aD : ∀ b, u < b → b ≠ D := fun b hb => Nat.ne_of_gt (Nat.lt_trans hu' hb)
  have hDI : D ≠ I := by rw [hD]; exact Nat.ne_of_gt hIlt
  have huI : u ≠ I := Nat.ne_of_gt (Nat.lt_trans (hD ▸ hIlt) hu')
  have huD : u ≠ D := Nat.ne_of_gt hu'
  have hCD : C ≠ D := by rw [hC]; exact Nat.succ_ne_self _
  have hCI : C ≠ I := by rw [hC]; exact Nat.ne_of_gt (Nat.lt_succ_of_lt (hD ▸ hIlt))
  have hDfp : D ∉ fp := fun hm => Nat.lt_irrefl _ (hD ▸ hfp _ hm)
  have hufp : u ∉ fp := fun hm => Nat.lt_irrefl _ (Nat.lt_trans (hD ▸ hfp _ hm) hu')
  have stay2 : ∀ b o, s₂.heap.get? b = some o → H2.get? b = some o := fun b o e => k2 _ _ (e1 _ _ e)
  have loop : ∀ s₃ : Shared, s₃ = { s₂ with heap := H2 } →
      codeAny (model prog w) A (.compLoop (.ListComp elt [⟨.Name x px, iter, ifs, 0⟩] scope pos) 0 (.ref I) (.ref s₂.heap.objs.size) cenv) (RR (.ref s₂.heap.objs.size) C) s₃ := by
    rintro s₃ rfl
    rw [← hD]
    refine codeAny_compLoop_tests
      (KInv s₂ n St C D I u oc J) ?_ (n + 1)
      (.mk H2 _ 0 [] (Nat.zero_le _) (Nat.le_refl _) (W.frame _ _ _ hst (fun b _ o e => stay2 b o e)) loc2 (k2 _ _ eD) (hJ _ _ _ _ _ _ hJ0 (Nat.le_refl _) (fun b o _ e => stay2 b o e)) fun b o _ e => stay2 b o e)
    rintro k s' ⟨h', tk, i, ys, hi, hyl, hst', loc', hD', j', kp'⟩
    by_cases hlt : i < n
    · refine with_t (W.item i _ _ _ hlt hst' fun v h₂ tk₂ hPv hst₂ hk₂ => ?_)
      intro htk₂
      dsimp only at htk₂
      have hk₂' : ∀ b o, b ≠ I → h'.get? b = some o → h₂.get? b = some o := fun b o hb => hk₂ b o (by simpa using hb)
      have loc₂ : Loc C oc u h₂ := loc'.keeps fun b o hb e => hk₂' b o (by rcases hb with rfl | rfl; exact hCI; exact huI) e
      refine with_t (assign_var hCk hx hcell (by rw [hCl]; exact loc₂) fun h₃ k₃ hk₃0 loc₃ var₃ sb₃ => ?_)
      intro htk₃
      dsimp only at htk₃
      rw [hCl] at loc₃
      have kp₃ : ∀ b o, b ≠ I → b ≠ u → h'.get? b = some o → h₃.get? b = some o := fun b o hb hbu e => sb₃.extBut b o hbu (hk₂' b o hb e)
      have hst₃ : St (i + 1) h₃ := W.frame _ _ _ hst₂ fun b hb o e => sb₃.extBut b o (fun q => hufp (q ▸ hb)) e
      have hD₃ : h₃.get? D = some (lst ys) := kp₃ D _ hDI (Ne.symm huD) hD'
      have kpS₃ : ∀ b o, b ≠ I → s₂.heap.get? b = some o → h₃.get? b = some o := fun b o hb e => kp₃ b o hb (by rintro rfl; exact absurd (Heap.lt_size e) (Nat.not_lt.mpr (hD ▸ Nat.le_of_lt hu'))) (kp' b o hb e)
      have hI₃ : ∃ o, h₃.get? I = some o := hIo _ _ hst₃
      refine wpAny_mono (turn i v ys h₃ k₃ _ hlt hk₃0 hPv (hJ _ _ _ _ _ _ j' (Nat.le_trans htk₂ htk₃) fun b o hb e => kp₃ b o (aI b hb) (Nat.ne_of_gt hb) e) var₃ ⟨_, hD₃⟩ hI₃ loc₃.there kpS₃) (fun ok s₃ q => ?_) fun _ _ e => e
      obtain ⟨⟨h₄, tk₄, rfl, kp₄⟩, q⟩ := q
      dsimp only at kp₄
      cases ok with
      | false =>
        simp only [Bool.false_eq_true, if_false] at q ⊢
        exact ⟨n + 1 - (i + 1), lt_turn hlt, .mk h₄ tk₄ (i + 1) ys hlt (Nat.le_succ_of_le hyl) (W.frame _ _ _ hst₃ (fun b _ o e => kp₄ b o e)) (loc₃.keeps (fun b o _ e => kp₄ b o e)) (kp₄ _ _ hD₃) q fun b o hb e => kp₄ b o (kpS₃ b o hb e)⟩
      | true =>
        simp only [if_true] at q ⊢
        refine wpAny_mono q (fun y s₄ r => ?_) fun _ _ e => e
        obtain ⟨⟨h₅, tk₅, rfl, kp₅⟩, j₅⟩ := r
        dsimp only at kp₅ j₅
        have hD₅ := kp₅ _ _ (kp₄ _ _ hD₃)
        refine append_at (hsz := by show ys.toArray.size ≤ sizeLine; rw [List.size_toArray]; exact Nat.le_trans hyl (Nat.le_trans hi hsz)) hD₅ fun h₆ sb₆ hD₆ => ?_
        refine ⟨n + 1 - (i + 1), lt_turn hlt, .mk h₆ _ (i + 1) (ys ++ [y]) hlt (by rw [List.length_append]; exact Nat.succ_le_succ hyl) (W.frame _ _ _ hst₃ (fun b hb o e => sb₆.extBut b o (fun q => hDfp (q ▸ hb)) (kp₅ b o (kp₄ b o e))))
          (loc₃.keeps (fun b o hb e => sb₆.extBut b o (by rcases hb with rfl | rfl; exact hCD; exact huD) (kp₅ b o (kp₄ b o e)))) (hD₆.trans (congrArg some (PyProof.Rows.LCg.lst_snoc ys y))) (hJ _ _ _ _ _ _ j₅ (Nat.le_refl _) (fun b o hb e => sb₆.extBut b o (aD b hb) e)) fun b o hb e => ?_⟩
        by_cases hbD : b = D
        · subst hbD; exact absurd (Heap.lt_size e) (by rw [hD]; exact Nat.lt_irrefl _)
        · exact sb₆.extBut b o hbD (kp₅ b o (kp₄ b o (kpS₃ b o hb e)))
    · obtain rfl : i = n := Nat.le_antisymm hi (Nat.not_lt.mp hlt)
      refine with_t (W.done _ _ _ hst' fun h₂ tk₂ hk₂ => ?_)
      intro htk₂
      dsimp only at htk₂
      have hk₂' : ∀ b o, b ≠ I → h'.get? b = some o → h₂.get? b = some o := fun b o hb => hk₂ b o (by simpa using hb)
      obtain ⟨⟨m', hn'⟩, _, _⟩ := loc'
      exact hRR h₂ tk₂ m' ys (fun b o hb e => hk₂' b o hb (kp' b o hb e)) (hk₂' _ _ hDI hD') (hJ _ _ _ _ _ _ j' htk₂ fun b o hb e => hk₂' b o (aI b hb) e) (hn'.at' fun o e => hk₂' _ o hCI e)
  have hce : ({ newEnv scope C env.globals (if oc = true then (x, u) :: cl else cl) env.qual none .none (some env) builtinsNs with scope := relabel scope env } : Env) = cenv := by rw [hcenv]; rfl
  have hlo : (newEnv scope C env.globals (if oc = true then (x, u) :: cl else cl) env.qual none .none (some env) builtinsNs).locals = C := rfl
  rw [hce, hlo]
  exact codeAny_compStart_list (loop _ rfl) (W.self 0 _ _ _ (W.frame _ _ _ hst (fun b _ o e => stay2 b o e)) (loop _ rfl))

/-- what the turns of a comprehension do, told from the heap s₁ at which its source stands -/
def Blk (prog : Program) (w : World) (A : Around) (env : Env) (elt : Expr) (x : Str) (ifs : List Expr) (scope : Scope) (cl : List (Str × Addr)) (oc : Bool) (n : Nat) (P : Nat → Value → Prop) (ex : Option Addr) (s₁ : Shared) (Fin : Value → Shared → Prop) : Prop :=
  ∃ (J : Nat → List Value → Heap → Nat → Prop) (I u : Addr) (cenv : Env), I = s₁.heap.objs.size ∧ u = (if oc = true then I + 3 else I + 2) ∧ cenv = compEnvC scope (if oc = true then (x, u) :: cl else cl) (I + 2) env ∧
    (∀ i ys h h' tk tk', J i ys h tk → tk ≤ tk' → (∀ b o, u < b → h.get? b = some o → h'.get? b = some o) → J i ys h' tk') ∧ J 0 [] s₁.heap s₁.toks ∧
    (∀ i v ys h tk (E' : Value → Shared → Prop), i < n → (oc = false → 0 < tk) → P i v → J i ys h tk → VarAt x oc u h v → (∃ o, h.get? I = some o) → (∃ o, h.get? (I + 1) = some o) → (∃ o, h.get? u = some o) → (∀ b o, s₁.heap.get? b = some o → h.get? b = some o) →
      Tests prog w A ifs cenv (fun ok s₃ => Keeps { s₁ with heap := h, toks := tk } s₃ ∧ if ok = true then wpAny (model prog w) A (eval elt cenv) (fun y s₄ => Keeps s₃ s₄ ∧ J (i + 1) (ys ++ [y]) s₄.heap s₄.toks) E' s₃ else J (i + 1) ys s₃.heap s₃.toks) E' { s₁ with heap := h, toks := tk }) ∧
    (∀ h tk ys, (∀ b o, ex ≠ some b → s₁.heap.get? b = some o → h.get? b = some o) → h.get? (I + 1) = some (lst ys) → J n ys h tk → Fin (.ref (I + 1)) { s₁ with heap := h, toks := tk })
structure ScopeOk (scope : Scope) (cl : List (Str × Addr)) (x : Str) (oc : Bool) (env : Env) : Prop where
  clos : closureFor scope env = pure cl
  kind : scope.kind = .function
  names : ∀ y ∈ scope.names, y.2 = .local → scope.names.lookup y.1 = some .local
  cells : ∀ k, cellsFrom k scope.names cl = if oc = true then (x, k) :: cl else cl
  push : ∀ h : Heap, pushCells h scope.names = if oc = true then h.push { cls := .type "cell", data := .cell none } else h
  var : (relabel scope env).names.lookup x = some (if oc = true then .cell else .local)

theorem lt_ne {h : Heap} {b n : Nat} {o : Obj} (e : h.get? b = some o) (hn : n = h.objs.size) : b ≠ n := by rintro rfl; rw [hn] at e; exact absurd (Heap.lt_size e) (Nat.lt_irrefl _)

theorem block_src {elt iter : Expr} {x : Str} {px : Pos} {ifs : List Expr} {scope : Scope} {cl : List (Str × Addr)} {pos : Pos} {s₁ : Shared} {n : Nat} {P : Nat → Value → Prop} {oc : Bool} {fp : List Addr} {St : Nat → Heap → Prop} {io : Obj} {ex : Option Addr} {Fin : Value → Shared → Prop} {RR : Value → Addr → Result → Shared → Prop}
    (hs : ScopeOk scope cl x oc env) (B : Blk prog w A env elt x ifs scope cl oc n P ex s₁ Fin)
    (W : Walks prog w A s₁.heap.objs.size fp [s₁.heap.objs.size] n P St) (hsz : n ≤ sizeLine) (hst : St 0 (s₁.heap.push io)) (hio : io.isFreed = false) (hfp : ∀ b ∈ fp, b < s₁.heap.objs.size + 1) (hIfp : s₁.heap.objs.size ∈ fp) (hIo : ∀ i h, St i h → ∃ o, h.get? s₁.heap.objs.size = some o) (hex : ∀ b, ex = some b → b < s₁.heap.objs.size)
    (hRR : ∀ h tk m' C, C = s₁.heap.objs.size + 2 → h.Ns C m' → (∀ h' tk', tk ≤ tk' → (∀ b o, b ≠ C → ex ≠ some b → h.get? b = some o → h'.get? b = some o) → Fin (.ref (s₁.heap.objs.size + 1)) { s₁ with heap := h', toks := tk' }) → (∀ b o, s₁.heap.get? b = some o → h.get? b = some o) → RR (.ref (s₁.heap.objs.size + 1)) C (.ok .next) { s₁ with heap := h, toks := tk }) :
    wpAny (model prog w) A (newList []) (fun acc s₃ => wpAny (model prog w) A (newFunctionEnv scope env.globals cl [] env.qual none .none (some env)) (fun cenv s₄ =>
      codeAny (model prog w) A (.compStart (.ListComp elt [⟨.Name x px, iter, ifs, 0⟩] scope pos) 0 (.ref s₁.heap.objs.size) acc { cenv with scope := relabel scope env }) (RR acc cenv.locals) s₄) E s₃) E { s₁ with heap := s₁.heap.push io } := by
  obtain ⟨J, I, u, cenv, hI, hu, hc, hJ, hJ0, turn, fin⟩ := B
  have up : ∀ b o, s₁.heap.get? b = some o → (s₁.heap.push io).get? b = some o := fun b o e => Heap.get?_push_of_some _ e
  have hsz' : (s₁.heap.push io).objs.size = I + 1 := by rw [Heap.size_push, hI]
  rw [← hI] at W hIfp hIo hRR ⊢
  refine block_K (s₂ := { s₁ with heap := s₁.heap.push io }) (I := I) (n := n) (P := P) (oc := oc) (D := I + 1) (C := I + 2) (u := u) (cenv := cenv) J W hsz hst (fun b hb => by dsimp only; rw [hsz', hI]; exact hfp b hb) hIfp hIo hsz'.symm rfl hu hc (hs.cells _) hs.push hs.kind
    (by rw [hc]; exact hs.var) hJ (hJ _ _ _ _ _ _ hJ0 (Nat.le_refl _) fun b o _ e => up b o e) ?_ ?_
  · intro i v ys h tk E' hi h0 hP hj hv hD hIn hun kp
    exact turn i v ys h tk E' hi h0 hP hj hv hIn hD hun fun b o e => kp b o (lt_ne e hI) (up b o e)
  · intro h tk m' ys kp hD hj hn
    have kp' : ∀ b o, s₁.heap.get? b = some o → h.get? b = some o := fun b o e => kp b o (lt_ne e hI) (up b o e)
    refine hRR h tk m' (I + 2) rfl hn (fun h' tk' htk' k => ?_) kp'
    have hlt : ∀ b o, s₁.heap.get? b = some o → b ≠ I + 2 := fun b o e q => absurd (Heap.lt_size e) (by rw [q, hI]; exact Nat.not_lt.mpr (Nat.le_add_right _ _))
    have hexI : ∀ b, I ≤ b → ex ≠ some b := fun b hb q => Nat.lt_irrefl _ (Nat.lt_of_lt_of_le (hex b q) (hI ▸ hb))
    have hIu : I + 2 ≤ u := by
      rw [hu]
      cases oc
      · exact Nat.le_refl _
      · exact Nat.le_succ _
    exact fin h' tk' ys (fun b o hb e => k b o (hlt b o e) hb (kp' b o e)) (k _ _ (Nat.ne_of_lt (Nat.lt_succ_self _)) (hexI _ (Nat.le_succ _)) hD)
      (hJ _ _ _ _ _ _ hj htk' fun b o hb e => k b o (Nat.ne_of_gt (Nat.lt_of_le_of_lt hIu hb)) (hexI b (Nat.le_of_lt (Nat.lt_of_le_of_lt (Nat.le_trans (Nat.le_add_right _ _) hIu) hb))) e)

def SrcOf (h : Heap) (n : Nat) (P : Nat → Value → Prop) (xv : Value) : Prop :=
  (∃ ax items, xv = .ref ax ∧ h.IsList ax items ∧ items.size = n ∧ P = (fun i v => items[i]? = some v)) ∨
  (∃ r a b t u v, xv = .ref r ∧ IsRange h r a b 1 t u v ∧ Builtin.Range.small a b 1 = true ∧ Builtin.Range.rangeSize a b 1 = (n : Int) ∧ P = (fun i v => ∃ t, v = .int (a + (i : Int)) t))

theorem src_iter {n : Nat} {P : Nat → Value → Prop} {xv : Value} {s₁ : Shared} {Q : Value → Shared → Prop} (hh : A.handled = none) (S : SrcOf s₁.heap n P xv)
    (h : ∀ (fp : List Addr) (St : Nat → Heap → Prop) (io : Obj), Walks prog w A s₁.heap.objs.size fp [s₁.heap.objs.size] n P St → St 0 (s₁.heap.push io) → io.isFreed = false → (∀ b ∈ fp, b < s₁.heap.objs.size + 1) → s₁.heap.objs.size ∈ fp → (∀ i h, St i h → ∃ o, h.get? s₁.heap.objs.size = some o) →
      Q (.ref s₁.heap.objs.size) { s₁ with heap := s₁.heap.push io }) : wpAny (model prog w) A (pyIter xv) Q E s₁ := by
  rcases S with ⟨ax, items, rfl, hl, rfl, rfl⟩ | ⟨r, a, b, t, u, v, rfl, hr, hsm, hn, rfl⟩
  · have hlt : ax < s₁.heap.objs.size := by obtain ⟨_, e, _⟩ := hl; exact Heap.lt_size e
    refine wpAny_pyIter_list hl (h [s₁.heap.objs.size, ax] _ _ (Walks.list hh s₁.heap.objs.size ax (Nat.ne_of_lt hlt) items) ⟨⟨_, Heap.get?_push_size _ rfl, rfl, rfl⟩, hl.push _⟩ rfl ?_ (List.mem_cons_self) fun i h st => by obtain ⟨o, e, _⟩ := st.1; exact ⟨o, e⟩)
    intro b hb
    rcases List.mem_cons.mp hb with rfl | hb
    · exact Nat.lt_succ_self _
    · rw [List.mem_singleton.mp hb]; exact Nat.lt_succ_of_lt hlt
  · refine wpAny_pyIter_range hr hsm (h [s₁.heap.objs.size] _ _ (PyProof.Rows.LCg.range_walks hh a n) ?_ rfl ?_ (List.mem_cons_self) fun i h st => ⟨_, st⟩)
    · show IsRangeIter _ _ _ _ _
      rw [hn]; simpa using Heap.get?_push_size _ rfl
    · intro b hb
      rw [List.mem_singleton.mp hb]; exact Nat.lt_succ_self _

theorem lc_eval {elt iter : Expr} {x : Str} {px : Pos} {ifs : List Expr} {scope : Scope} {cl : List (Str × Addr)} {pos : Pos} {oc : Bool} {Q : Value → Shared → Prop} (hh : A.handled = none) (hs : ScopeOk scope cl x oc env)
    (h : wpAny (model prog w) A (eval iter env) (fun xv s₁ => ∃ n P, SrcOf s₁.heap n P xv ∧ n ≤ sizeLine ∧ Blk prog w A env elt x ifs scope cl oc n P none s₁ Q) E s)
    (hf : ∀ x, foldedSetIterable iter env x = pure x := by intro _; rfl) :
    wpAny (model prog w) A (eval (.ListComp elt [⟨.Name x px, iter, ifs, 0⟩] scope pos) env) Q E s := by
  rw [eval_ListComp]
  refine wpAny_comprehension_free (use := none) rfl hf hs.clos hs.kind hs.names (wpAny_mono h (fun xv s₁ h₁ => ?_) fun _ _ e => e)
  obtain ⟨n, P, S, hsz, B⟩ := h₁
  refine src_iter hh S fun fp St io W st0 hio hfp hI hIo => ?_
  refine block_src hs B W hsz st0 hio hfp hI hIo (fun _ e => nomatch e) ?_
  intro h tk m' C hC hn fin kp
  exact ⟨m', hn, fun h' hsb => fin h' _ (Nat.le_refl _) fun b o hb _ e => hsb.extBut b o hb e⟩

theorem lc_assign {elt iter : Expr} {x y : Str} {px py : Pos} {ifs : List Expr} {scope : Scope} {cl : List (Str × Addr)} {pos spos : Pos} {oc : Bool} {h₀ : Heap} {m : Str → Option Value} {Q : Flow → Shared → Prop} (hh : A.handled = none) (hs : ScopeOk scope cl x oc env)
    (hsw : swapsWith (.ListComp elt [⟨.Name x px, iter, ifs, 0⟩] scope pos) (some (.Name y py)) spos.line env = pure true)
    (hy : env.kindOf y = some .local) (hp : (env.scope.kind == .class || (env.scope.kind == .module && env.locals != env.globals)) = false) (F : Fr h₀ env.locals s.heap m)
    (h : wpAny (model prog w) A (eval iter env) (fun xv s₁ => Fr h₀ env.locals s₁.heap m ∧ ∃ n P, SrcOf s₁.heap n P xv ∧ n ≤ sizeLine ∧ Blk prog w A env elt x ifs scope cl oc n P (some env.locals) s₁ (fun v s' => s'.heap.Ns env.locals (fun z => if z = y then some v else m z) → Q .next s')) E s)
    (hf : ∀ x, foldedSetIterable iter env x = pure x := by intro _; rfl) :
    wpAny (model prog w) A (exec (.Assign [.Name y py] (.ListComp elt [⟨.Name x px, iter, ifs, 0⟩] scope pos) spos) env) Q E s := by
  rw [exec_Assign_Name_used _ _ _ _ hsw]
  refine wpAny_bind (wpAny_standAt (wpAny_bind ?_))
  show wpAny _ A (do let _ ← comprehension (.ListComp elt [⟨.Name x px, iter, ifs, 0⟩] scope pos) scope env _ (newList []) false (eval iter env) (some (assign (.Name y py) env))) _ _ s
  refine wpAny_bind (wpAny_mono (wpAny_comprehension_free (use := some (assign (.Name y py) env)) (Q := fun _ s' => Q .next s') rfl hf hs.clos hs.kind hs.names
    (wpAny_mono h (fun xv s₁ h₁ => ?_) fun _ _ e => e)) (fun _ s' hq => wpAny_pure (wpAny_pure hq)) fun _ _ e => e)
  obtain ⟨F₁, n, P, S, hsz, B⟩ := h₁
  refine src_iter hh S fun fp St io W st0 hio hfp hI hIo => ?_
  refine block_src hs B W hsz st0 hio hfp hI hIo (fun b e => by rw [← Option.some.inj e]; exact F₁.ns.lt) ?_
  intro h tk m' C hC hn fin kp
  have hLC : env.locals ≠ C := by rw [hC]; exact Nat.ne_of_lt (Nat.lt_of_lt_of_le F₁.ns.lt (Nat.le_add_right _ _))
  show wpAny _ A (assign (.Name y py) env (.ref _)) _ _ _
  refine wpAny_assign_Name (wpAny_storeName_local hy (F₁.ns.keeps kp) (fun h₂ hn₂ hs₂ => ?_) hp)
  refine ⟨m', hn.sameBut hs₂ (Ne.symm hLC), fun h₃ hs₃ => ?_⟩
  exact fin h₃ _ (by first | exact Nat.le_refl _ | exact Nat.le_succ _) (fun b o hbC hbL e => hs₃.extBut b o hbC (hs₂.extBut b o (fun q => hbL (congrArg some q.symm)) e)) (hn₂.sameBut hs₃ hLC)
end
end Mine

-- part Lev
namespace Mine
set_option maxRecDepth 100000
set_option maxHeartbeats 8000000
local macro_rules | `(tactic| walk_at $s:str) => `(tactic| k_extra $(Lean.Syntax.mkStrLit ("MY@" ++ s.getString)))
theorem words_Lev : True := by
  k_with_none
  k_with "MY@MY lit" => first | with_reducible rfl | exact lit257 | exact litSpQ | exact litQ | exact litE | exact lit257Q | exact litLies
  k_with "MY@MY len" => first | assumption | (simp only [List.length_append, List.length_cons, List.length_nil, List.length_replicate, rep] at *; omega)
  k_with "MY@MY int" => first | decide | omega
  k_with "MY@subscriptTail Name Slice str ref" => (k_here; (with_reducible show wpAny _ _ (subscriptTail _ _ (Value.str (S _) _) (Value.ref _)) _ _ _); k_dflt (first | (refine' sub_from (s := ⟨_, _, _, _, _⟩) (by k_asm) (by k_asm) (by walk_at "MY len") (by walk_at "MY int") _ (by walk_at "MY cut") ?_) | (refine' sub_to (s := ⟨_, _, _, _, _⟩) (by k_asm) (by k_asm) (by walk_at "MY len") (by walk_at "MY int") _ (by walk_at "MY cut") ?_) | (refine' sub_to_neg (s := ⟨_, _, _, _, _⟩) (by k_asm) (by k_asm) (by walk_at "MY len") (by walk_at "MY int") _ (by walk_at "MY cut") ?_) | (refine' sub_all (s := ⟨_, _, _, _, _⟩) (by k_asm) (by k_asm) (by walk_at "MY len") ?_) | (refine' sub_run (s := ⟨_, _, _, _, _⟩) (by k_asm) (by k_asm) (by walk_at "MY len") (by walk_at "MY int") (by walk_at "MY int") (by walk_at "MY len") _ (by walk_at "MY cut") ?_)); intro _ _ _ _ _; (try dsimp only))
  k_with "MY@subscriptTail Name Name str int" => (k_here; (with_reducible show wpAny _ _ (subscriptTail _ _ (Value.str (S _) _) (Value.int _ _)) _ _ _); k_dflt (refine' sub_item (by walk_at "MY len") (by walk_at "MY len") (by walk_at "MY len") _ (by walk_at "MY item") ?_); (try dsimp only))
  k_with "MY@subscriptTail Name BinOp str int" => (k_here; (with_reducible show wpAny _ _ (subscriptTail _ _ (Value.str (S _) _) (Value.int _ _)) _ _ _); k_dflt (refine' sub_item (by walk_at "MY len") (by walk_at "MY len") (by walk_at "MY len") _ (by walk_at "MY item") ?_); (try dsimp only))
  k_with "MY@compareOp NotEq str str" => (k_here; k_dflt (first | (refine' ne_no' (by walk_at "MY lit") (by walk_at "MY lit") (by first | rfl | walk_at "MY eq") ?_) | (refine' ne_yes' (by walk_at "MY lit") (by walk_at "MY lit") (by first | decide | walk_at "MY ne") ?_)); (try dsimp only))
  k_with "MY@compareOp Eq str str" => (k_here; k_dflt (first | (refine' eq_yes' (by walk_at "MY lit") (by walk_at "MY lit") (by first | rfl | walk_at "MY eq") ?_) | (refine' eq_no' (by walk_at "MY lit") (by walk_at "MY lit") (by first | decide | walk_at "MY ne") ?_)); (try dsimp only))
  k_with "MY@call builtin:len" => (k_here; k_dflt (refine len_S (by walk_at "MY len") ?_); (try dsimp only))
  k_with "MY@binaryOp Add str str" => (k_here; k_dflt (refine' add_S' (by walk_at "MY lit") (by walk_at "MY lit") (by walk_at "MY len") ?_); intro _ _; (try dsimp only))
  k_with "MY@MY free" => ((fail_if_success (with_reducible show wpAny _ _ (exec (Stmt.While _ _ _ _) _) _ _ _)); (fail_if_success (with_reducible show WhileStep2 _ _ _ _ _ _ _ _)))
  k_with "MY@MY steps" => repeat' (first | (k_unfold; (try dsimp only)) | (k_end; wrow_close) | (walk_at "MY free"; first | walk1 | (dsimp only; walk1) | (leave1; walk_say "STEP leave1"; try dsimp only)) | fail "no step")
  k_with "MY@MY cut" => with_reducible rfl
  k_with "MY@truthy str" => (k_here; k_dflt (first | (refine truthy_S (by walk_at "MY len") true (by refine decide_eq_true ?_; walk_at "MY full") ?_) | (refine truthy_S (by walk_at "MY len") false (by refine decide_eq_false ?_; refine not_not_intro ?_; walk_at "MY empty") ?_)); (try dsimp only))
  k_with "MY@MY len" => (simp only [WL_len, RL_len, rep_len, List.length_drop]; omega)
  k_with "MY@MY full" => first | exact RL_ne _ _ | (refine rep_full ?_; omega) | (refine drop_ne ?_; rw [WL_len]; omega)
  k_with "MY@MY empty" => (refine rep_nil ?_; omega)
  k_with "MY@MY cut" => first | (refine WL_RL _ _ _ ?_ ?_ <;> omega) | exact RL_cut _ _
  k_with "MY@MY item" => first | (refine (if_neg (by omega)).trans (by first | (refine WL_0 _ _ _ ?_; omega) | (refine WL_34 _ _ _ ?_ ?_ <;> omega) | (refine WL_c _ _ _ ?_; omega))) | (refine (if_pos (by omega)).trans (by refine RL_last' _ _ _ ?_; rw [RL_len]; omega))
  k_with "MY@MY ne" => first | exact WL_ne (by assumption) | (intro e9_k9; have e8_k9 := (List.cons.inj e9_k9).1; omega)
  trivial

theorem lev_cov1 {p k : Nat} (hk : k ≤ 1 + p) : k = 0 ∨ (1 ≤ k ∧ k ≤ p) ∨ k = 1 + p := by
  rcases Nat.eq_zero_or_pos k with h | h
  · exact .inl h
  · rcases Nat.lt_or_eq_of_le hk with h2 | h2
    · rw [Nat.add_comm] at h2
      exact .inr (.inl ⟨h, Nat.le_of_lt_succ h2⟩)
    · exact .inr (.inr h2)
theorem lev_cov {p q : Nat} (h : p ≠ q) : ∃ M, M ≤ p ∧ M ≤ q ∧ ∀ k, k ≤ 1 + M → k = 0 ∨ (1 ≤ k ∧ k ≤ M) ∨ (k = 1 + p ∧ p < q) ∨ (k = 1 + q ∧ q < p) := by
  rcases Nat.lt_or_gt_of_ne h with h1 | h1
  · exact ⟨p, Nat.le_refl _, Nat.le_of_lt h1, fun k hk => (lev_cov1 hk).imp_right (Or.imp_right fun e => .inl ⟨e, h1⟩)⟩
  · exact ⟨q, Nat.le_of_lt h1, Nat.le_refl _, fun k hk => (lev_cov1 hk).imp_right (Or.imp_right fun e => .inr ⟨e, h1⟩)⟩
theorem lev_fin3 {p q k : Nat} (h : k = 1 + p ∧ p < q) (hq : q ≤ 100) : ∃ da db, p + 1 - ((k : Nat) : Int).toNat = da ∧ q + 1 - ((k : Nat) : Int).toNat = db ∧ da = 0 ∧ 1 ≤ db ∧ db ≤ 100 ∧ 2 * (((rep da).length : Int) + ((rep db).length : Int)) = 2 * ((max p q : Nat) - (min p q : Nat) : Int) := by
  obtain ⟨rfl, h⟩ := h
  have h' := Nat.le_of_lt h
  refine ⟨0, q - p, ?_, ?_, rfl, Nat.sub_pos_of_lt h, Nat.le_trans (Nat.sub_le _ _) hq, ?_⟩
  · show p + 1 - (1 + p) = 0
    rw [Nat.add_comm 1 p, Nat.sub_self]
  · show q + 1 - (1 + p) = q - p
    rw [Nat.add_comm 1 p, Nat.add_sub_add_right]
  · rw [rep_len, rep_len, Nat.max_eq_right h', Nat.min_eq_left h', Int.ofNat_sub h', Int.natCast_zero, Int.zero_add]
theorem lev_fin4 {p q k : Nat} (h : k = 1 + q ∧ q < p) (hp : p ≤ 100) : ∃ da db, p + 1 - ((k : Nat) : Int).toNat = da ∧ q + 1 - ((k : Nat) : Int).toNat = db ∧ db = 0 ∧ 1 ≤ da ∧ da ≤ 100 ∧ 2 * (((rep da).length : Int) + ((rep db).length : Int)) = 2 * ((max p q : Nat) - (min p q : Nat) : Int) := by
  obtain ⟨db, da, h1, h2, h3, h4, h5, h6⟩ := lev_fin3 (p := q) (q := p) h hp
  exact ⟨da, db, h2, h1, h3, h4, h5, by rw [Int.add_comm, Nat.max_comm, Nat.min_comm]; exact h6⟩
theorem lev_spec (w : World) (mean : ExcName → Option Value) (mg mb : Str → Option Value) (news : List (Addr × Obj)) (t u v : Tok) (c p q : Nat) (mc : Int) :
   CbClaim PySem.Challenge.rw_wn0056_01.row.prog w (hd.heap_39 w.params) hd.view_39 (looseW hd.view_39 []) mean mg mb 102 news [] (c ≠ 34 ∧ p ≠ q ∧ p ≤ 100 ∧ q ≤ 100) [Value.str (S (WL c p)) t, Value.str (S (WL c q)) u, Value.int mc v] (fun t => Value.int (2 * ((max p q : Nat) - (min p q : Nat) : Int)) t) := by
  k_fill
  intro dp un gd cn cs a ccd cl outer A₀ base h₀ L m s Q E B F X N T hk
  intro hp hd hu hret
  obtain ⟨hc34, hpq, hp100, hq100⟩ := hp
  obtain ⟨M, hMp, hMq, hcov⟩ := lev_cov hpq
  refine wpAny_call ?_
  k_dflt cell_enter
  walk_at "MY steps"
  rename Fr _ _ _ _ => F1
  rename News _ _ _ _ => N1
  refine While_inv3 (n₀ := 1 + M - 0) (s := ⟨_, _, _, _, _⟩) (fun n m nx => ∃ (k : Nat), k ≤ 1 + M ∧ n = 1 + M - k ∧ HS m "a" (WL c p) ∧ HS m "b" (WL c q) ∧ HI m "max_cost" mc ∧ HI m "pre" (k : Int) ∧ nx = news) F1 N1 ?hJ ?turn ?hE
  case hJ => exact ⟨0, Nat.zero_le _, rfl, HS.mk rfl rfl, HS.mk rfl rfl, HI.mk rfl rfl, HI.mk rfl rfl, rfl⟩
  case hE => passes_own
  case turn =>
  clear F1 N1
  intro n m₁ nx h1 tk1 RQ RZ RE F2 N2 J2 hRQ hRZ
  obtain ⟨k, hkd, hn, ⟨ta, e1⟩, ⟨tb, e2⟩, ⟨tm, e3⟩, ⟨tp, e4⟩, hnx⟩ := J2
  subst hnx hn
  have F3 := fr_of F2 [("a", _), ("b", _), ("max_cost", _), ("pre", _)] (List.forall_mem_cons.mpr ⟨e1, List.forall_mem_cons.mpr ⟨e2, List.forall_mem_cons.mpr ⟨e3, List.forall_mem_cons.mpr ⟨e4, fun _ h => nomatch h⟩⟩⟩⟩)
  clear F2 e1 e2 e3 e4
  dsimp only [kstB] at F3
  have hcase := hcov k hkd
  clear hcov
  rcases hcase with h0 | h0 | h0 | h0
  · walk_at "MY steps"
    exact hRQ _ _ <| ws_next (n' := 1 + M - (k + 1)) (by assumption) (by assumption) (by omega) ⟨k + 1, by omega, rfl, HS.mk rfl rfl, HS.mk rfl rfl, HI.mk rfl rfl, HI.mk rfl (by omega), rfl⟩
  · walk_at "MY steps"
    exact hRQ _ _ <| ws_next (n' := 1 + M - (k + 1)) (by assumption) (by assumption) (by omega) ⟨k + 1, by omega, rfl, HS.mk rfl rfl, HS.mk rfl rfl, HI.mk rfl rfl, HI.mk rfl (by omega), rfl⟩
  all_goals (
    clear hkd hMp hMq
    walk_at "MY steps"
    refine hRZ _ ?_
    clear hRZ hRQ
    (try dsimp only)
    walk_at "MY steps"
    rename Fr _ _ _ _ => F1
    rename News _ _ _ _ => N1
    obtain ⟨da, db, hda, hdb, h1, h2, h3, hres⟩ := (by first | exact lev_fin3 (p := p) (q := q) h0 hq100 | exact lev_fin4 (p := p) (q := q) h0 hp100)
    clear h0 hp100 hq100 hpq
    rw [hda, hdb] at F1
    clear hda hdb
    refine While_inv3 (n₀ := 1) (s := ⟨_, _, _, _, _⟩) (fun n m nx' => (n = 1 ∧ HI m "post" 0 ∨ n = 0 ∧ HI m "post" (-1)) ∧ HS m "a" (RL c da) ∧ HS m "b" (RL c db) ∧ HI m "max_cost" mc ∧ nx' = nx) F1 N1 ?hJ ?turn ?hE
    case hJ => exact ⟨.inl ⟨rfl, HI.mk rfl rfl⟩, HS.mk rfl rfl, HS.mk rfl rfl, HI.mk rfl rfl, rfl⟩
    case hE => passes_own
    case turn =>
    clear F1 N1
    intro n m₂ nx2 h2 tk2 RQ2 RZ2 RE2 F4 N4 J4 hRQ2 hRZ2
    obtain ⟨J5, ⟨ta2, e1⟩, ⟨tb2, e2⟩, ⟨tm2, e3⟩, hnx2⟩ := J4
    subst hnx2
    rcases J5 with ⟨hn1, tp2, e4⟩ | ⟨hn1, tp2, e4⟩
    all_goals (
      subst hn1
      have F5 := fr_of F4 [("a", _), ("b", _), ("max_cost", _), ("post", _)] (List.forall_mem_cons.mpr ⟨e1, List.forall_mem_cons.mpr ⟨e2, List.forall_mem_cons.mpr ⟨e3, List.forall_mem_cons.mpr ⟨e4, fun _ h => nomatch h⟩⟩⟩⟩)
      clear F4 e1 e2 e3 e4
      dsimp only [kstB] at F5)
    · walk_at "MY steps"
      exact hRQ2 _ _ <| ws_next (n' := 0) (by assumption) (by assumption) (by omega) ⟨.inr ⟨rfl, HI.mk rfl rfl⟩, HS.mk rfl rfl, HS.mk rfl rfl, HI.mk rfl rfl, rfl⟩
    · walk_at "MY steps"
      refine hRZ2 _ ?_
      clear hRZ2 hRQ2
      (try dsimp only)
      walk_at "MY steps"
      exact cb_retI hret hres (by assumption) (by assumption))
end Mine

-- part Parse
namespace Mine
set_option maxRecDepth 100000
set_option maxHeartbeats 8000000
local macro_rules | `(tactic| walk_at $s:str) => `(tactic| k_extra $(Lean.Syntax.mkStrLit ("MY@" ++ s.getString)))
theorem words_Parse : True := by
  k_with_none
  k_with "MY@MY lit" => first | with_reducible rfl | exact lit257 | exact litSpQ | exact litQ | exact litE | exact lit257Q | exact litLies
  k_with "MY@MY len" => first | assumption | (simp only [List.length_append, List.length_cons, List.length_nil, List.length_replicate, rep] at *; omega)
  k_with "MY@MY int" => first | decide | omega
  k_with "MY@subscriptTail Name Slice str ref" => (k_here; (with_reducible show wpAny _ _ (subscriptTail _ _ (Value.str (S _) _) (Value.ref _)) _ _ _); (refine with_t ?_); k_dflt (first | (refine' sub_from (s := ⟨_, _, _, _, _⟩) (by k_asm) (by k_asm) (by walk_at "MY len") (by walk_at "MY int") _ (by walk_at "MY cut") ?_) | (refine' sub_to (s := ⟨_, _, _, _, _⟩) (by k_asm) (by k_asm) (by walk_at "MY len") (by walk_at "MY int") _ (by walk_at "MY cut") ?_) | (refine' sub_to_neg (s := ⟨_, _, _, _, _⟩) (by k_asm) (by k_asm) (by walk_at "MY len") (by walk_at "MY int") _ (by walk_at "MY cut") ?_) | (refine' sub_all (s := ⟨_, _, _, _, _⟩) (by k_asm) (by k_asm) (by walk_at "MY len") ?_) | (refine' sub_run (s := ⟨_, _, _, _, _⟩) (by k_asm) (by k_asm) (by walk_at "MY len") (by walk_at "MY int") (by walk_at "MY int") (by walk_at "MY len") _ (by walk_at "MY cut") ?_)); intro _ _ _ _ _ hT9_k9; (try dsimp only at hT9_k9); (try dsimp only))
  k_with "MY@subscriptTail Name Name str int" => (k_here; (with_reducible show wpAny _ _ (subscriptTail _ _ (Value.str (S _) _) (Value.int _ _)) _ _ _); k_dflt (refine' sub_item (by walk_at "MY len") (by walk_at "MY len") (by walk_at "MY len") _ (by walk_at "MY item") ?_); (try dsimp only))
  k_with "MY@subscriptTail Name BinOp str int" => (k_here; (with_reducible show wpAny _ _ (subscriptTail _ _ (Value.str (S _) _) (Value.int _ _)) _ _ _); k_dflt (refine' sub_item (by walk_at "MY len") (by walk_at "MY len") (by walk_at "MY len") _ (by walk_at "MY item") ?_); (try dsimp only))
  k_with "MY@compareOp NotEq str str" => (k_here; k_dflt (first | (refine' ne_no' (by walk_at "MY lit") (by walk_at "MY lit") (by first | rfl | walk_at "MY eq") ?_) | (refine' ne_yes' (by walk_at "MY lit") (by walk_at "MY lit") (by first | decide | walk_at "MY ne") ?_)); (try dsimp only))
  k_with "MY@compareOp Eq str str" => (k_here; k_dflt (first | (refine' eq_yes' (by walk_at "MY lit") (by walk_at "MY lit") (by first | rfl | walk_at "MY eq") ?_) | (refine' eq_no' (by walk_at "MY lit") (by walk_at "MY lit") (by first | decide | walk_at "MY ne") ?_)); (try dsimp only))
  k_with "MY@call builtin:len" => (k_here; k_dflt (refine len_S (by walk_at "MY len") ?_); (try dsimp only))
  k_with "MY@binaryOp Add str str" => (k_here; k_dflt (refine' add_St (by walk_at "MY lit") (by walk_at "MY lit") (by walk_at "MY len") ?_); intro t9_k9 k9_k9 hT9_k9 hS9_k9; (try dsimp only at hT9_k9 hS9_k9); (try dsimp only))
  k_with "MY@MY free" => ((fail_if_success (with_reducible show wpAny _ _ (exec (Stmt.While _ _ _ _) _) _ _ _)); (fail_if_success (with_reducible show WhileStep2 _ _ _ _ _ _ _ _)); (fail_if_success (with_reducible show WStep _ _ _ _ _ _ _ _)))
  k_with "MY@MY steps" => repeat' (first | (k_unfold; (try dsimp only)) | (k_end; wrow_close) | (walk_at "MY free"; first | walk1 | (dsimp only; walk1) | (leave1; walk_say "STEP leave1"; try dsimp only)) | fail "no step")
  k_with "MY@MY cut" => with_reducible rfl
  k_with "MY@truthy str" => (k_here; k_dflt (first | (refine truthy_S (by walk_at "MY len") true (by refine decide_eq_true ?_; walk_at "MY full") ?_) | (refine truthy_S (by walk_at "MY len") false (by refine decide_eq_false ?_; refine not_not_intro ?_; walk_at "MY empty") ?_)); (try dsimp only))
  k_with "MY@execs cons" => (k_here; refine execs_cons_t ?_; intro tk_q_k9 hT9_k9; (try dsimp only at hT9_k9))
  k_with "MY@execs nil" => (k_here; refine wpAny_execs_nil ?_)
  k_with "MY@MY len" => first | (simp only [XX_len, rep_len, List.length_append, List.length_cons, List.length_nil]; omega) | omega
  k_with "MY@MY item" => (refine (if_neg (by omega)).trans (by first | (refine XX_34 _ _ _ ?_ ?_ <;> omega) | (refine XX_32 _ _ _ ?_; omega)))
  trivial

theorem parse257_spec (w : World) (mean : ExcName → Option Value) (mg mb : Str → Option Value) (news : List (Addr × Obj)) (t : Tok) (d : Nat) (tail : List Nat) :
   ClmT 1 8 PySem.Challenge.rw_wn0056_01.row.prog w (hd.heap_39 w.params) hd.view_39 (looseW hd.view_39 []) mean mg mb 46 news (fun _ => d ≤ 100 ∧ tail.length ≤ 100) [Value.str (S (XX d tail)) t] (fun T0 T1 v add => add = [] ∧ ∃ t : Nat, v = Value.str (S (rep d)) t ∧ (1 ≤ d → T0 ≤ t ∧ t < T1)) := by
  k_fill
  intro dp un gd cn cs a ccd cl outer A₀ base h₀ L m s Q E B F X N T hk
  intro hp hd hu hret
  obtain ⟨hd100, htl⟩ := hp
  have hlen := XX_len d tail
  refine wpAny_call ?_
  k_dflt cell_enter
  walk_at "MY steps"
  rename Fr _ _ _ _ => F1
  rename News _ _ _ _ => N1
  refine While_t (n₀ := d - 0) (s := ⟨_, _, _, _, _⟩) (fun n m nx tk => ∃ (k : Nat) (td : Nat), k ≤ d ∧ n = d - k ∧ HS m "resp" (XX d tail) ∧ HI m "i" (5 + 2 * (k : Int)) ∧ HI m "n" ((XX d tail).length : Int) ∧ m "dirname" = some (.str (S (rep k)) td) ∧ s.toks ≤ tk ∧ (1 ≤ k → s.toks ≤ td ∧ td < tk) ∧ nx = news) F1 N1 ?hJ ?turn ?hE
  case hJ =>
    refine ⟨0, _, Nat.zero_le _, rfl, HS.mk rfl rfl, HI.mk rfl rfl, HI.mk rfl rfl, congrArg (fun y => some (Value.str y _)) litE, ?_, (fun h => absurd h (by decide)), rfl⟩
    dsimp only
    omega
  case hE => passes_own
  case turn =>
  clear F1 N1
  intro n m₁ nx h1 tk1 RQ RZ RE F2 N2 J2 hRQ hRZ
  obtain ⟨k, td, hkd, hn, ⟨tr, e1⟩, ⟨ti, e2⟩, ⟨tn, e3⟩, e4, hT0, hT1, hnx⟩ := J2
  subst hnx hn
  have F3 := fr_of F2 [("resp", _), ("i", _), ("n", _), ("dirname", _)] (List.forall_mem_cons.mpr ⟨e1, List.forall_mem_cons.mpr ⟨e2, List.forall_mem_cons.mpr ⟨e3, List.forall_mem_cons.mpr ⟨e4, fun _ h => nomatch h⟩⟩⟩⟩)
  clear F2 e1 e2 e3 e4
  dsimp only [kstB] at F3
  rcases Nat.lt_or_eq_of_le hkd with hlt | heq
  · walk_at "MY steps"
    dsimp only
    refine hRQ _ _ <| wstep_next (n' := d - (k + 1)) (by assumption) (by assumption) (by omega) ⟨k + 1, _, hlt, rfl, HS.mk rfl rfl, HI.mk rfl (by omega), HI.mk rfl rfl, congrArg (fun l => some (Value.str (S l) _)) (rep_succ k), by omega, fun _ => ?_, rfl⟩
    rename (_ ∨ _) => hS9
    rcases hS9 with h | h | h
    · omega
    · omega
    · exact absurd h.1 (by simp)
  · subst heq
    walk_at "MY steps"
    dsimp only
    refine hRQ _ _ ?_
    clear hRZ hRQ
    simp only [WStep]
    walk_at "MY steps"
    (try dsimp only)
    exact hret _ [] _ _ (by omega) ⟨rfl, _, rfl, fun h => by have := hT1 h; omega⟩ (by assumption) (by assumption) (fun _ h => nomatch h)
end Mine

-- part For
open PyProof.Rows.LCg (fr_but news_but)
namespace Mine
set_option maxRecDepth 100000
set_option maxHeartbeats 4000000

def FStep (h₀ : Heap) (L I : Addr) (oI : Obj) (s : Shared) (J : (Str → Option Value) → List (Addr × Obj) → Nat → Prop) (Q : Flow → Shared → Prop) (f : Flow) (s₃ : Shared) : Prop :=
  match f with
  | .brk => Q .next s₃
  | .ret v => Q (.ret v) s₃
  | _ => ∃ h' tk m₂ news₂, s₃ = { s with heap := h', toks := tk } ∧ Fr h₀ L h' m₂ ∧ News h₀ L h' ((I, oI) :: news₂) ∧ (∀ p ∈ news₂, p.1 ≠ I) ∧ J m₂ news₂ tk
theorem fstep_next {h₀ h' : Heap} {L I : Addr} {oI : Obj} {s : Shared} {J : (Str → Option Value) → List (Addr × Obj) → Nat → Prop} {Q : Flow → Shared → Prop} {tk : Nat} {m₂ : Str → Option Value} {news₂ : List (Addr × Obj)}
    (F : Fr h₀ L h' m₂) (N : News h₀ L h' ((I, oI) :: news₂)) (hI : ∀ p ∈ news₂, p.1 ≠ I) (hJ : J m₂ news₂ tk) : FStep h₀ L I oI s J Q .next { s with heap := h', toks := tk } := ⟨h', tk, m₂, news₂, rfl, F, N, hI, hJ⟩

structure WalksT (prog : Program) (w : World) (A : Around) (I : Addr) (n : Nat) (P : Nat → Nat → Value → Prop) (St : Nat → Heap → Prop) : Prop where
  item : ∀ i (s : Shared) (Q : Option Value → Shared → Prop) (E : Value → Shared → Prop), i < n → St i s.heap →
    (∀ v h' tk, P s.toks i v → St (i + 1) h' → (∀ b o, b ∉ [I] → s.heap.get? b = some o → h'.get? b = some o) → Q (some v) { s with heap := h', toks := tk }) → wpAny (model prog w) A (pyNext (.ref I)) Q E s
  done : ∀ (s : Shared) (Q : Option Value → Shared → Prop) (E : Value → Shared → Prop), St n s.heap →
    (∀ h' tk, (∀ b o, b ∉ [I] → s.heap.get? b = some o → h'.get? b = some o) → Q none { s with heap := h', toks := tk }) → wpAny (model prog w) A (pyNext (.ref I)) Q E s
theorem WalksT.of {prog : Program} {w : World} {A : Around} {I : Addr} {fp : List Addr} {n : Nat} {P : Nat → Value → Prop} {St : Nat → Heap → Prop} (W : Walks prog w A I fp [I] n P St) : WalksT prog w A I n (fun _ => P) St := ⟨W.item, W.done⟩

section
variable {prog : Program} {w : World} {A : Around} {E : Value → Shared → Prop} {Q : Flow → Shared → Prop} {s : Shared} {env : Env} {h₀ : Heap} {L : Addr} {x : Str} {body : List Stmt}
def LoopT (prog : Program) (w : World) (A : Around) (h₀ : Heap) (env : Env) (x : Str) (body : List Stmt) (Q : Flow → Shared → Prop) (E : Value → Shared → Prop) (it : Value) (s₂ : Shared) : Prop :=
  ∃ (I : Addr) (n : Nat) (P : Nat → Nat → Value → Prop) (St : Nat → Heap → Prop) (m : Str → Option Value) (news : List (Addr × Obj)) (J : Nat → (Str → Option Value) → List (Addr × Obj) → Nat → Prop),
    it = .ref I ∧ WalksT prog w A I n P St ∧ env.locals ≠ I ∧ h₀.get? I = none ∧ (∀ p ∈ news, p.1 ≠ I) ∧ St 0 s₂.heap ∧ (∀ i h, St i h → ∃ o, h.get? I = some o) ∧ Fr h₀ env.locals s₂.heap m ∧ News h₀ env.locals s₂.heap news ∧ J 0 m news s₂.toks ∧
    (∀ i h h' m' news' tk, St i h → (∀ o, h.get? I = some o → h'.get? I = some o) → News h₀ env.locals h' news' → J i m' news' tk → St i h') ∧
    (∀ i m' news' tk tk', tk ≤ tk' → J i m' news' tk → J i m' news' tk') ∧
    (∀ i v m₁ news₁ h₁ tk₀ tk₁ oI, i < n → tk₀ < tk₁ → P tk₀ i v → J i m₁ news₁ tk₀ → (∀ p ∈ news₁, p.1 ≠ I) → Fr h₀ env.locals h₁ (fun y => if y = x then some v else m₁ y) → News h₀ env.locals h₁ ((I, oI) :: news₁) →
      wpAny (model prog w) A (execs body env) (FStep h₀ env.locals I oI s₂ (J (i + 1)) Q) E { s₂ with heap := h₁, toks := tk₁ }) ∧
    ∀ h' tk m' news', Fr h₀ env.locals h' m' → News h₀ env.locals h' news' → J n m' news' tk → Q .next { s₂ with heap := h', toks := tk }

inductive FInv (h₀ : Heap) (L I : Addr) (n : Nat) (s₂ : Shared) (St : Nat → Heap → Prop) (J : Nat → (Str → Option Value) → List (Addr × Obj) → Nat → Prop) : Nat → Shared → Prop where
  | mk (h' : Heap) (tk : Nat) (m' : Str → Option Value) (news' : List (Addr × Obj)) (i : Nat) : St i h' → Fr h₀ L h' m' → News h₀ L h' news' → (∀ p ∈ news', p.1 ≠ I) → J i m' news' tk → i ≤ n → FInv h₀ L I n s₂ St J (n + 1 - i) { s₂ with heap := h', toks := tk }
theorem For_t {px pos : Pos} {iter : Expr} {m : Str → Option Value} (_F : Fr h₀ env.locals s.heap m) (hx : env.kindOf x = some .local)
    (hp : (env.scope.kind == .class || (env.scope.kind == .module && env.locals != env.globals)) = false)
    (h : wpAny (model prog w) A (eval iter env) (fun xv s₁ => wpAny (model prog w) A (pyIter xv) (fun it s₂ => LoopT prog w A h₀ env x body Q E it s₂) E s₁) E s)
    (hs : ∀ x, foldedSetIterable iter env x = pure x := by intro _; rfl)
    (hE : PassesOwn (model prog w) A env E := by passes_own) :
    wpAny (model prog w) A (exec (.For (.Name x px) iter body [] pos) env) Q E s := by
  refine wpAny_For (wpAny_mono h (fun xv s₁ h₁ => wpAny_mono h₁ (fun it s₂ h₂ => ?_) fun _ _ e => e) fun _ _ e => e) hs
  obtain ⟨I, n, P, St, m, news, J, rfl, W, hLI, hIn, hnw, hst, hIo, F, N, h0, frame, up, step, hQ⟩ := h₂
  refine codeAny_forLoop_any (FInv h₀ env.locals I n s₂ St J) ?_ (n + 1) (.mk s₂.heap s₂.toks m news 0 hst F N hnw h0 (Nat.zero_le _))
  rintro k s' ⟨h', tk, m', news', i, hst', F', N', hnw', hJ, hi⟩
  have next : ∀ h₁ : Heap, (∀ b o, b ∉ [I] → h'.get? b = some o → h₁.get? b = some o) → Fr h₀ env.locals h₁ m' ∧ News h₀ env.locals h₁ news' := fun h₁ hk₁ =>
    ⟨fr_but F' hk₁ hLI hIn, news_but N' hk₁ hnw'⟩
  by_cases hlt : i < n
  · refine with_t (W.item i _ _ _ hlt hst' fun v h₁ tk₁ hP hst₁ hk₁ => ?_)
    intro htk₁
    dsimp only at htk₁
    obtain ⟨F₁, N₁⟩ := next h₁ hk₁
    refine wpAny_of_eq (show letOwnedTupleGo (.Name x px) (.ref I) v = pure () from rfl) ?_
    refine wpAny_assign_Name (wpAny_storeName_local hx F₁.ns (fun h₂ hn₂ hs₂ => ?_) hp)
    have F₂ := F₁.set hn₂ hs₂
    obtain ⟨oI, hoI⟩ := hIo _ _ hst₁
    dsimp only at hs₂
    have hoI₂ : h₂.get? I = some oI := (hs₂.2 I fun q => hLI q.symm).trans hoI
    have N₂ : News h₀ env.locals h₂ ((I, oI) :: news') := fun p hp => by
      rcases List.mem_cons.mp hp with rfl | hp
      · exact ⟨hoI₂, Ne.symm hLI, hIn⟩
      · exact N₁.set hs₂ p hp
    refine wpAny_mono (wpAny_passesOwn (by passes_own) (step i v m' news' _ tk (tk₁ + 1) oI hlt (Nat.lt_succ_of_le htk₁) hP hJ hnw' F₂ N₂)) (fun f s₃ h₃ => ?_) fun _ _ e => e
    have fin : (∃ h' tk m₂ news₂, s₃ = { s₂ with heap := h', toks := tk } ∧ Fr h₀ env.locals h' m₂ ∧ News h₀ env.locals h' ((I, oI) :: news₂) ∧ (∀ p ∈ news₂, p.1 ≠ I) ∧ J (i + 1) m₂ news₂ tk) → ∃ m, m < n + 1 - i ∧ FInv h₀ env.locals I n s₂ St J m s₃ := by
      rintro ⟨hp₃, tk₃, m₂, news₂, rfl, F₃, N₃, ha₃, hJ₃⟩
      refine ⟨n + 1 - (i + 1), lt_turn hlt, .mk hp₃ tk₃ m₂ news₂ (i + 1) ?_ F₃ (fun p hp => N₃ p (List.mem_cons_of_mem _ hp)) ha₃ hJ₃ hlt⟩
      refine frame _ _ _ _ _ _ hst₁ (fun o e => ?_) (fun p hp => N₃ p (List.mem_cons_of_mem _ hp)) hJ₃
      rw [← Option.some.inj (hoI.symm.trans e)]
      exact (N₃ _ List.mem_cons_self).1
    cases f with
    | ret v => exact h₃
    | brk => exact h₃
    | cont => exact fin h₃
    | next => exact fin h₃
  · have hin : i = n := by omega
    subst hin
    refine with_t (W.done _ _ _ hst' fun h₁ tk₁ hk₁ => ?_)
    intro htk₁
    obtain ⟨F₁, N₁⟩ := next h₁ hk₁
    exact wpAny_execs_nil (hQ h₁ tk₁ m' news' F₁ N₁ (up _ _ _ _ _ htk₁ hJ))

theorem loop_of {xv : Value} {n : Nat} {P : Nat → Nat → Value → Prop} {m : Str → Option Value} {news : List (Addr × Obj)} {io : Obj} {St : Nat → Heap → Prop} (J : Nat → (Str → Option Value) → List (Addr × Obj) → Nat → Prop)
    (hit : ∀ {Q : Value → Shared → Prop}, Q (.ref s.heap.objs.size) { s with heap := s.heap.push io } → wpAny (model prog w) A (pyIter xv) Q E s)
    (W : WalksT prog w A s.heap.objs.size n P St) (st0 : St 0 (s.heap.push io)) (hIo : ∀ i h, St i h → ∃ o, h.get? s.heap.objs.size = some o)
    (F : Fr h₀ env.locals s.heap m) (N : News h₀ env.locals s.heap news) (h0 : J 0 m news s.toks)
    (frame : ∀ i h h' m' news' tk, St i h → (∀ o, h.get? s.heap.objs.size = some o → h'.get? s.heap.objs.size = some o) → News h₀ env.locals h' news' → J i m' news' tk → St i h')
    (up : ∀ i m' news' tk tk', tk ≤ tk' → J i m' news' tk → J i m' news' tk')
    (step : ∀ i v m₁ news₁ h₁ tk₀ tk₁ I oI, i < n → tk₀ < tk₁ → P tk₀ i v → J i m₁ news₁ tk₀ → (∀ p ∈ news₁, p.1 ≠ I) → Fr h₀ env.locals h₁ (fun y => if y = x then some v else m₁ y) → News h₀ env.locals h₁ ((I, oI) :: news₁) →
      wpAny (model prog w) A (execs body env) (FStep h₀ env.locals I oI s (J (i + 1)) Q) E { s with heap := h₁, toks := tk₁ })
    (fin : ∀ h' tk m' news', Fr h₀ env.locals h' m' → News h₀ env.locals h' news' → J n m' news' tk → Q .next { s with heap := h', toks := tk }) :
    wpAny (model prog w) A (pyIter xv) (fun it s₂ => LoopT prog w A h₀ env x body Q E it s₂) E s := by
  refine hit ?_
  have k : ∀ b o, s.heap.get? b = some o → (s.heap.push io).get? b = some o := fun b o e => Heap.get?_push_of_some _ e
  refine ⟨s.heap.objs.size, n, P, St, m, news, J, rfl, W, Nat.ne_of_lt F.ns.lt, ?_, fun p hp => Nat.ne_of_lt (Heap.lt_size (N p hp).1), st0, hIo, F.keeps k, N.grown k, h0, frame, up, ?_, fin⟩
  · cases hq : h₀.get? s.heap.objs.size with
    | none => rfl
    | some o => exact absurd (Heap.lt_size (F.keep _ _ hq)) (Nat.lt_irrefl _)
  · intro i v m₁ news₁ h₁ tk₀ tk₁ oI a b c d e f g
    exact step i v m₁ news₁ h₁ tk₀ tk₁ _ oI a b c d e f g

theorem loop_list {ax : Addr} {items : Array Value} {m : Str → Option Value} {news : List (Addr × Obj)} (J : Nat → (Str → Option Value) → List (Addr × Obj) → Nat → Prop) (hh : A.handled = none)
    (F : Fr h₀ env.locals s.heap m) (N : News h₀ env.locals s.heap news) (hl : s.heap.IsList ax items) (h0 : J 0 m news s.toks)
    (keep : ∀ i h' m' news' tk, News h₀ env.locals h' news' → J i m' news' tk → h'.IsList ax items)
    (up : ∀ i m' news' tk tk', tk ≤ tk' → J i m' news' tk → J i m' news' tk')
    (step : ∀ i v m₁ news₁ h₁ tk₁ I oI, i < items.size → items[i]? = some v → J i m₁ news₁ tk₁ → (∀ p ∈ news₁, p.1 ≠ I) → Fr h₀ env.locals h₁ (fun y => if y = x then some v else m₁ y) → News h₀ env.locals h₁ ((I, oI) :: news₁) →
      wpAny (model prog w) A (execs body env) (FStep h₀ env.locals I oI s (J (i + 1)) Q) E { s with heap := h₁, toks := tk₁ })
    (fin : ∀ h' tk m' news', Fr h₀ env.locals h' m' → News h₀ env.locals h' news' → J items.size m' news' tk → Q .next { s with heap := h', toks := tk }) :
    wpAny (model prog w) A (pyIter (.ref ax)) (fun it s₂ => LoopT prog w A h₀ env x body Q E it s₂) E s := by
  have hlt : ax < s.heap.objs.size := by obtain ⟨_, e, _⟩ := hl; exact Heap.lt_size e
  refine loop_of J (fun q => wpAny_pyIter_list hl q) (.of (Walks.list hh s.heap.objs.size ax (Nat.ne_of_lt hlt) items)) ⟨⟨_, Heap.get?_push_size _ rfl, rfl, rfl⟩, hl.push _⟩ (fun i h st => by obtain ⟨o, e, _⟩ := st.1; exact ⟨o, e⟩) F N h0 ?_ up (fun i v m₁ news₁ h₁ tk₀ tk₁ I oI a b c d => step i v m₁ news₁ h₁ tk₁ I oI a c (up _ _ _ _ _ (Nat.le_of_lt b) d)) fin
  rintro i h h' m' news' tk ⟨⟨o, e, r⟩, _⟩ hk N' hJ
  exact ⟨⟨o, hk o e, r⟩, keep _ _ _ _ _ N' hJ⟩

theorem loop_range {r : Addr} {a b : Int} {t u v : Tok} {n : Nat} {m : Str → Option Value} {news : List (Addr × Obj)} (J : Nat → (Str → Option Value) → List (Addr × Obj) → Nat → Prop) (hh : A.handled = none)
    (F : Fr h₀ env.locals s.heap m) (N : News h₀ env.locals s.heap news) (hr : IsRange s.heap r a b 1 t u v) (hsm : Builtin.Range.small a b 1 = true) (hn : Builtin.Range.rangeSize a b 1 = (n : Int)) (h0 : J 0 m news s.toks)
    (up : ∀ i m' news' tk tk', tk ≤ tk' → J i m' news' tk → J i m' news' tk')
    (step : ∀ i v m₁ news₁ h₁ tk₁ I oI, i < n → (∃ t, v = .int (a + (i : Int)) t) → J i m₁ news₁ tk₁ → (∀ p ∈ news₁, p.1 ≠ I) → Fr h₀ env.locals h₁ (fun y => if y = x then some v else m₁ y) → News h₀ env.locals h₁ ((I, oI) :: news₁) →
      wpAny (model prog w) A (execs body env) (FStep h₀ env.locals I oI s (J (i + 1)) Q) E { s with heap := h₁, toks := tk₁ })
    (fin : ∀ h' tk m' news', Fr h₀ env.locals h' m' → News h₀ env.locals h' news' → J n m' news' tk → Q .next { s with heap := h', toks := tk }) :
    wpAny (model prog w) A (pyIter (.ref r)) (fun it s₂ => LoopT prog w A h₀ env x body Q E it s₂) E s := by
  refine loop_of J (fun q => wpAny_pyIter_range hr hsm q) (.of (PyProof.Rows.LCg.range_walks hh a n)) ?_ (fun i h st => ⟨_, st⟩) F N h0 ?_ up (fun i v m₁ news₁ h₁ tk₀ tk₁ I oI a b c d => step i v m₁ news₁ h₁ tk₁ I oI a c (up _ _ _ _ _ (Nat.le_of_lt b) d)) fin
  · show IsRangeIter _ _ _ _ _
    rw [hn]; simpa using Heap.get?_push_size _ rfl
  · intro i h h' m' news' tk st hk _ _
    exact hk _ st

theorem loop_str {y : Str} {u : Tok} {m : Str → Option Value} {news : List (Addr × Obj)} (J : Nat → (Str → Option Value) → List (Addr × Obj) → Nat → Prop) (hh : A.handled = none)
    (F : Fr h₀ env.locals s.heap m) (N : News h₀ env.locals s.heap news) (h0 : J 0 m news s.toks)
    (up : ∀ i m' news' tk tk', tk ≤ tk' → J i m' news' tk → J i m' news' tk')
    (step : ∀ i v m₁ news₁ h₁ tk₁ I oI, i < y.cps.size → (∃ c t, y.cps[i]? = some c ∧ v = .str ⟨#[c]⟩ t ∧ s.toks ≤ t) → J i m₁ news₁ tk₁ → (∀ p ∈ news₁, p.1 ≠ I) → Fr h₀ env.locals h₁ (fun y => if y = x then some v else m₁ y) → News h₀ env.locals h₁ ((I, oI) :: news₁) →
      wpAny (model prog w) A (execs body env) (FStep h₀ env.locals I oI s (J (i + 1)) Q) E { s with heap := h₁, toks := tk₁ })
    (fin : ∀ h' tk m' news', Fr h₀ env.locals h' m' → News h₀ env.locals h' news' → J y.cps.size m' news' tk → Q .next { s with heap := h', toks := tk }) :
    wpAny (model prog w) A (pyIter (.str y u)) (fun it s₂ => LoopT prog w A h₀ env x body Q E it s₂) E s := by
  have go : ∀ (T : String) (io : Obj) (hit : ∀ {Q : Value → Shared → Prop}, Q (.ref s.heap.objs.size) { s with heap := s.heap.push io } → wpAny (model prog w) A (pyIter (.str y u)) Q E s)
      (W : WalksT prog w A s.heap.objs.size y.cps.size (fun tk i v => ∃ c t, y.cps[i]? = some c ∧ v = .str ⟨#[c]⟩ t ∧ tk ≤ t) (fun i h => h.IsStrIter s.heap.objs.size T y u i)) (st0 : (s.heap.push io).IsStrIter s.heap.objs.size T y u 0),
      wpAny (model prog w) A (pyIter (.str y u)) (fun it s₂ => LoopT prog w A h₀ env x body Q E it s₂) E s := by
    intro T io hit W st0
    refine loop_of (fun i m nw tk => J i m nw tk ∧ s.toks ≤ tk) hit W st0 (fun i h st => by obtain ⟨o, e, _⟩ := st; exact ⟨o, e⟩) F N ⟨h0, Nat.le_refl _⟩ ?_ (fun i m' n' tk tk' a b => ⟨up _ _ _ _ _ a b.1, Nat.le_trans b.2 a⟩) ?_ (fun h' tk m' n' a b c => fin _ _ _ _ a b c.1)
    · rintro i h h' m' news' tk ⟨o, e, r⟩ hk N' hJ
      exact ⟨o, hk o e, r⟩
    · intro i v m₁ news₁ h₁ tk₀ tk₁ I oI a b c d e f g
      obtain ⟨cc, t, c1, c2, c3⟩ := c
      refine wpAny_with_toks (n := s.toks) (Nat.le_trans d.2 (Nat.le_of_lt b)) (wpAny_mono (step i v m₁ news₁ h₁ tk₁ I oI a ⟨cc, t, c1, c2, Nat.le_trans d.2 c3⟩ (up _ _ _ _ _ (Nat.le_of_lt b) d.1) e f g) (fun fl s₃ h₃ ht => ?_) (fun _ _ x _ => x))
      cases fl with
      | ret v => exact h₃
      | brk => exact h₃
      | next => obtain ⟨h', tk, m₂, n₂, rfl, F', N', hI, hJ⟩ := h₃; exact ⟨h', tk, m₂, n₂, rfl, F', N', hI, hJ, ht⟩
      | cont => obtain ⟨h', tk, m₂, n₂, rfl, F', N', hI, hJ⟩ := h₃; exact ⟨h', tk, m₂, n₂, rfl, F', N', hI, hJ, ht⟩
  cases ha : y.cps.all (· < 128)
  · refine go "str_iterator" _ (fun q => wpAny_pyIter_wide ha q) ⟨?_, ?_⟩ ⟨_, Heap.get?_push_size _ rfl, rfl, rfl⟩
    · intro i s Q E hi st hQ
      refine wpAny_pyNext_wide_item st (c := y.cps[i]) (by simp [hi]) fun h' hit' hs' => ?_
      exact hQ _ h' (s.toks + 1) ⟨_, _, by simp [hi], rfl, Nat.le_refl _⟩ hit' fun b o hb e => hs'.extBut b o (fun h => hb (by simp [h])) e
    · exact fun s Q E st hQ => wpAny_pyNext_wide_end hh st (by simp) fun h' he' => hQ h' s.toks fun b o hb e => he' b o (fun h => hb (by simp [h])) e
  · refine go "str_ascii_iterator" _ (fun q => wpAny_pyIter_ascii ha q) ⟨?_, ?_⟩ ⟨_, Heap.get?_push_size _ rfl, rfl, rfl⟩
    · intro i s Q E hi st hQ
      refine wpAny_pyNext_ascii_item st (c := y.cps[i]) (by simp [hi]) fun h' hit' hs' => ?_
      exact hQ _ h' (s.toks + 1) ⟨_, _, by simp [hi], rfl, Nat.le_refl _⟩ hit' fun b o hb e => hs'.extBut b o (fun h => hb (by simp [h])) e
    · exact fun s Q E st hQ => wpAny_pyNext_ascii_end hh st (by simp) fun h' he' => hQ h' s.toks fun b o hb e => he' b o (fun h => hb (by simp [h])) e
end
end Mine

-- part Cmp2
namespace Mine
set_option maxRecDepth 100000
set_option maxHeartbeats 4000000
open PyProof.Rows.LCg (lst)

section
variable {prog : Program} {w : World} {A : Around} {E : Value → Shared → Prop} {s : Shared} {env : Env} {R : Result → Shared → Prop}
variable {elt iter iter2 : Expr} {x y : Str} {px py : Pos} {scope : Scope} {pos : Pos}
abbrev Two (elt iter iter2 : Expr) (x y : Str) (px py : Pos) (scope : Scope) (pos : Pos) : Expr := .ListComp elt [⟨.Name x px, iter, [], 0⟩, ⟨.Name y py, iter2, [], 0⟩] scope pos
theorem turn0_eq (it acc : Value) (env : Env) : compTurn (Two elt iter iter2 x y px py scope pos) 0 it acc env = (standAt iter.pos >>= fun _ => pyNext it >>= fun r => match r with
      | none => pure (.done .next)
      | some v => letOwnedTupleGo (.Name x px) it v >>= fun _ => assign (.Name x px) env v >>= fun _ => eval iter2 env >>= fun xv => standAt iter2.pos >>= fun _ => foldedSetIterable iter2 env xv >>= fun xv =>
        holding [xv] (pyIter xv) >>= fun it2 => runOwn (.compStart (Two elt iter iter2 x y px py scope pos) 1 it2 acc env) env >>= fun _ => again (.compLoop (Two elt iter iter2 x y px py scope pos) 0 it acc env)) := by rfl
theorem turn1_eq (it acc : Value) (env : Env) : compTurn (Two elt iter iter2 x y px py scope pos) 1 it acc env = (standAt iter2.pos >>= fun _ => pyNext it >>= fun r => match r with
      | none => pure (.done .next)
      | some v => letOwnedTupleGo (.Name y py) it v >>= fun _ => assign (.Name y py) env v >>= fun _ =>
        (eval elt env >>= fun x => call (.builtin "list.append") [acc, x] >>= fun _ => pure ()) >>= fun _ => again (.compLoop (Two elt iter iter2 x y px py scope pos) 1 it acc env)) := by rfl

theorem codeAny_loop0 {it acc : Value} (I : Nat → Shared → Prop)
    (turn : ∀ n s, I n s → ∀ E', wpAny (model prog w) A (pyNext it) (fun r s₁ => match r with
      | none => R (.ok .next) s₁
      | some v => wpAny (model prog w) A (assign (.Name x px) env v) (fun _ s₂ => wpAny (model prog w) A (eval iter2 env) (fun xv s₃ => wpAny (model prog w) A (pyIter xv) (fun it2 s₄ =>
          codeAny (model prog w) A (.compStart (Two elt iter iter2 x y px py scope pos) 1 it2 acc env) (fun r s' => match r with | .ok _ => ∃ m, m < n ∧ I m s' | .error _ => False) s₄) E' s₃) E' s₂) E' s₁) E' s)
    (hf : ∀ x, foldedSetIterable iter2 env x = pure x)
    (n : Nat) (h : I n s) : codeAny (model prog w) A (.compLoop (Two elt iter iter2 x y px py scope pos) 0 it acc env) R s := by
  refine codeAny_loop rfl I (fun n s hI => ?_) n h
  show wpAny _ A ((compTurn (Two elt iter iter2 x y px py scope pos) 0 it acc env).onRaise (fun x => do noteFrame x env; theTreesLotGoes x)) _ _ s
  refine wpAny_noted ?_
  rw [turn0_eq]
  refine wpAny_bind (wpAny_standAt (wpAny_bind (wpAny_mono (turn n s hI _) (fun r s₁ h₁ => ?_) fun _ _ h' => h')))
  cases r with
  | none => exact wpAny_pure h₁
  | some v =>
    refine wpAny_bind (wpAny_of_eq (show letOwnedTupleGo (.Name x px) it v = pure () from rfl) ?_)
    refine wpAny_bind (wpAny_mono h₁ (fun _ s₂ h₂ => wpAny_bind (wpAny_mono h₂ (fun xv s₃ h₃ => wpAny_bind (wpAny_standAt (wpAny_bind (wpAny_of_eq (hf xv) (wpAny_bind (wpAny_holding (wpAny_mono h₃ (fun it2 s₄ h₄ => ?_) fun _ _ h' => h'))))))) fun _ _ h' => h')) fun _ _ h' => h')
    refine wpAny_bind (wpAny_runOwn (codeAny_mono h₄ fun r s' hr => ?_))
    cases r with
    | ok f => exact wpAny_pure ⟨rfl, hr⟩
    | error e => exact hr.elim
theorem codeAny_loop1 {it acc : Value} (I : Nat → Shared → Prop)
    (turn : ∀ n s, I n s → ∀ E', wpAny (model prog w) A (pyNext it) (fun r s₁ => match r with
      | none => R (.ok .next) s₁
      | some v => wpAny (model prog w) A (assign (.Name y py) env v) (fun _ s₂ => wpAny (model prog w) A (eval elt env) (fun xv s₃ =>
          wpAny (model prog w) A (call (.builtin "list.append") [acc, xv]) (fun _ s' => ∃ m, m < n ∧ I m s') E' s₃) E' s₂) E' s₁) E' s)
    (n : Nat) (h : I n s) : codeAny (model prog w) A (.compLoop (Two elt iter iter2 x y px py scope pos) 1 it acc env) R s := by
  refine codeAny_loop rfl I (fun n s hI => ?_) n h
  show wpAny _ A ((compTurn (Two elt iter iter2 x y px py scope pos) 1 it acc env).onRaise (fun x => do noteFrame x env; theTreesLotGoes x)) _ _ s
  refine wpAny_noted ?_
  rw [turn1_eq]
  refine wpAny_bind (wpAny_standAt (wpAny_bind (wpAny_mono (turn n s hI _) (fun r s₁ h₁ => ?_) fun _ _ h' => h')))
  cases r with
  | none => exact wpAny_pure h₁
  | some v =>
    refine wpAny_bind (wpAny_of_eq (show letOwnedTupleGo (.Name y py) it v = pure () from rfl) ?_)
    exact wpAny_bind (wpAny_mono h₁ (fun _ s₂ h₂ => wpAny_bind (wpAny_bind (wpAny_mono h₂ (fun xv s₃ h₃ => wpAny_bind (wpAny_mono h₃ (fun _ s₄ h₄ => wpAny_pure (wpAny_pure ⟨rfl, h₄⟩)) fun _ _ h' => h')) fun _ _ h' => h'))) fun _ _ h' => h')
theorem compStart1 {it acc : Value}
    (h0 : codeAny (model prog w) A (.compLoop (Two elt iter iter2 x y px py scope pos) 1 it acc env) R s)
    (h : ∀ E', wpAny (model prog w) A (pyIter it) (fun it' s' => codeAny (model prog w) A (.compLoop (Two elt iter iter2 x y px py scope pos) 1 it' acc env) R s') E' s) :
    codeAny (model prog w) A (.compStart (Two elt iter iter2 x y px py scope pos) 1 it acc env) R s := by
  refine codeAny_of_tree ?_
  show wpAny _ _ ((compStart (Two elt iter iter2 x y px py scope pos) 1 it acc env).onRaise (fun x => do noteFrame x env; standAt theWindowsPlace)) _ _ s
  refine wpAny_notedAt ?_
  unfold compStart
  show wpAny _ _ (ask >>= _) _ _ s
  refine wpAny_bind (wpAny_askSetting (wpAny_ite ?_))
  split
  · first
      | exact wpAny_bind (wpAny_pure (wpAny_pure (And.intro rfl h0)))
      | exact wpAny_pure (And.intro rfl h0)
  · refine wpAny_bind (wpAny_rule ?_)
    show wpAny _ _ (standAt iter2.pos >>= _) _ _ s
    exact wpAny_bind (wpAny_standAt (wpAny_bind (wpAny_mono (h _) (fun it' s' h' => wpAny_pure (And.intro rfl h')) fun _ _ x => x)))

inductive OInv (s₂ : Shared) (n : Nat) (a₀ : Int) (I C D : Addr) (J : Nat → Nat → List Value → Heap → Prop) : Nat → Shared → Prop where
  | mk (h' : Heap) (tk i : Nat) (ys : List Value) (m : Str → Option Value) : i ≤ n → IsRangeIter h' I (a₀ + (i : Nat) * 1) ((n : Int) - (i : Nat)) 1 → h'.Ns C m → h'.get? D = some (lst ys) → J i 0 ys h' → (∀ b o, b ≠ I → s₂.heap.get? b = some o → h'.get? b = some o) →
    OInv s₂ n a₀ I C D J (n + 1 - i) { s₂ with heap := h', toks := tk }
inductive IInv (s₂ : Shared) (n l : Nat) (a₀ : Int) (i : Nat) (tv : Tok) (x : Str) (I I2 C D : Addr) (J : Nat → Nat → List Value → Heap → Prop) : Nat → Shared → Prop where
  | mk (h' : Heap) (tk j : Nat) (ys : List Value) (m : Str → Option Value) : j ≤ l → IsRangeIter h' I2 (0 + (j : Nat) * 1) (((l : Nat) : Int) - (j : Nat)) 1 → h'.Ns C m → m x = some (Value.int (a₀ + (i : Int)) tv) → h'.get? D = some (lst ys) → J i j ys h' →
    (∀ b o, b ≠ I → s₂.heap.get? b = some o → h'.get? b = some o) → IsRangeIter h' I (a₀ + ((i + 1 : Nat) : Int) * 1) ((n : Int) - ((i + 1 : Nat) : Int)) 1 → IInv s₂ n l a₀ i tv x I I2 C D J (l + 1 - j) { s₂ with heap := h', toks := tk }
/-- two clauses over ranges, the targets locals; the turns keep all that stood -/
theorem block_2 {cl : List (Str × Addr)} {s₂ : Shared} {I : Addr} {n : Nat} {a₀ : Int} {C D : Addr} {cenv : Env} {len2 : Nat → Nat}
    {RR : Value → Addr → Result → Shared → Prop} (J : Nat → Nat → List Value → Heap → Prop) (hh : A.handled = none)
    (hst : IsRangeIter s₂.heap I a₀ n 1) (hsz : ∀ i k ys h, J i k ys h → i ≤ n → ys.length ≤ sizeLine)
    (hD : D = s₂.heap.objs.size) (hC : C = D + 1) (hcenv : cenv = compEnvC scope cl C env)
    (hcells : cellsFrom (C + 1) scope.names cl = cl) (hpush : ∀ h : Heap, pushCells h scope.names = h)
    (hkind : scope.kind = .function) (hx : cenv.kindOf x = some .local) (hy : cenv.kindOf y = some .local) (hxy : x ≠ y)
    (hJ : ∀ i k ys h h', J i k ys h → (∀ b o, C < b → o.cls = .type "tuple" → h.get? b = some o → h'.get? b = some o) → J i k ys h')
    (hJ0 : J 0 0 [] s₂.heap) (hJn : ∀ i ys h, J i (len2 i) ys h → J (i + 1) 0 ys h)
    (hf : ∀ x, foldedSetIterable iter2 cenv x = pure x)
    (second : ∀ i t h tk m (E' : Value → Shared → Prop), i < n → h.Ns C m → m x = some (.int (a₀ + i) t) → (∀ b o, b ≠ I → s₂.heap.get? b = some o → h.get? b = some o) →
      wpAny (model prog w) A (eval iter2 cenv) (fun xv s₃ => Keeps { s₂ with heap := h, toks := tk } s₃ ∧ ∃ r t u v, xv = .ref r ∧ IsRange s₃.heap r 0 (len2 i) 1 t u v ∧ Builtin.Range.small 0 (len2 i) 1 = true ∧ Builtin.Range.rangeSize 0 (len2 i) 1 = ((len2 i : Nat) : Int)) E' { s₂ with heap := h, toks := tk })
    (turn : ∀ i k t t' ys h tk m (E' : Value → Shared → Prop), i < n → k < len2 i → J i k ys h → h.Ns C m → m x = some (.int (a₀ + i) t) → m y = some (.int k t') → (∀ b o, b ≠ I → s₂.heap.get? b = some o → h.get? b = some o) →
      wpAny (model prog w) A (eval elt cenv) (fun v s₄ => Keeps { s₂ with heap := h, toks := tk } s₄ ∧ J i (k + 1) (ys ++ [v]) s₄.heap) E' { s₂ with heap := h, toks := tk })
    (hRR : ∀ h tk m' ys, (∀ b o, b ≠ I → s₂.heap.get? b = some o → h.get? b = some o) → h.get? D = some (lst ys) → J n 0 ys h → h.Ns C m' → RR (.ref D) C (.ok .next) { s₂ with heap := h, toks := tk }) :
    wpAny (model prog w) A (newList []) (fun acc s₃ => wpAny (model prog w) A (newFunctionEnv scope env.globals cl [] env.qual none .none (some env)) (fun cenv s₄ =>
      codeAny (model prog w) A (.compStart (Two elt iter iter2 x y px py scope pos) 0 (.ref I) acc { cenv with scope := relabel scope env }) (RR acc cenv.locals) s₄) E s₃) E s₂ := by
  have hIlt : I < s₂.heap.objs.size := Heap.lt_size hst
  have hCk : cenv.scope.kind = .function := by rw [hcenv]; exact hkind
  have hCl : cenv.locals = C := by rw [hcenv]; rfl
  refine wpAny_newObj_type (comp_env ?_)
  dsimp only
  have hsz1 : (s₂.heap.push { cls := .type "list", dict := none, data := .seq ([] : List Value).toArray }).objs.size = D + 1 := by rw [Heap.size_push, hD]
  rw [hsz1]
  generalize hH1 : s₂.heap.push { cls := .type "list", dict := none, data := .seq ([] : List Value).toArray } = H1 at hsz1 ⊢
  have e1 : ∀ b o, s₂.heap.get? b = some o → H1.get? b = some o := fun b o e => hH1 ▸ Heap.get?_push_of_some _ e
  have eD : H1.get? D = some (lst []) := by rw [hD, ← hH1]; exact Heap.get?_push_size _ rfl
  have a1 : (H1.push { cls := .type "dict", data := .dict #[] }).Ns C fun _ => none := by rw [hC, ← hsz1]; exact Heap.Ns.new _ _
  rw [hpush, ← hC, hcells]
  generalize hH2 : H1.push { cls := .type "dict", data := .dict #[] } = H2 at a1 ⊢
  have k2 : ∀ b o, H1.get? b = some o → H2.get? b = some o := fun b o e => hH2 ▸ Heap.get?_push_of_some _ e
  have hDC : D < C := by rw [hC]; exact Nat.lt_succ_self _
  have hDI : D ≠ I := by rw [hD]; exact Nat.ne_of_gt hIlt
  have hCI : C ≠ I := Nat.ne_of_gt (Nat.lt_trans (hD ▸ hIlt) hDC)
  have hCD : C ≠ D := Nat.ne_of_gt hDC
  have aI : ∀ b, C < b → b ≠ I := fun b hb => Nat.ne_of_gt (Nat.lt_trans (Nat.lt_trans (hD ▸ hIlt) hDC) hb)
  have aD : ∀ b, C < b → b ≠ D := fun b hb => Nat.ne_of_gt (Nat.lt_trans hDC hb)
  have stay2 : ∀ b o, s₂.heap.get? b = some o → H2.get? b = some o := fun b o e => k2 _ _ (e1 _ _ e)
  have old : ∀ b o, s₂.heap.get? b = some o → b ≠ C ∧ b ≠ D := fun b o e => by
    have := Heap.lt_size e
    rw [← hD] at this
    exact ⟨Nat.ne_of_lt (Nat.lt_trans this hDC), Nat.ne_of_lt this⟩
  have W := Walks.range (prog := prog) (w := w) hh I a₀ 1 n
  have loop : ∀ s₃ : Shared, s₃ = { s₂ with heap := H2 } →
      codeAny (model prog w) A (.compLoop (Two elt iter iter2 x y px py scope pos) 0 (.ref I) (.ref s₂.heap.objs.size) cenv) (RR (.ref s₂.heap.objs.size) C) s₃ := by
    rintro s₃ rfl
    rw [← hD]
    refine codeAny_loop0
      (OInv s₂ n a₀ I C D J) ?_ hf (n + 1)
      (.mk H2 _ 0 [] _ (Nat.zero_le _) (by simpa using stay2 _ _ hst) a1 (k2 _ _ eD) (hJ _ _ _ _ _ hJ0 (fun b o _ _ e => stay2 b o e)) fun b o _ e => stay2 b o e)
    rintro k s' ⟨h', tk, i, ys, m', hi, hst', hn', hD', j', kp'⟩ E'
    by_cases hlt : i < n
    · refine W.item i _ _ _ hlt hst' fun v h₂ tk₂ hPv hst₂ hk₂ => ?_
      obtain ⟨tv, rfl⟩ := hPv
      have hk₂' : ∀ b o, b ≠ I → h'.get? b = some o → h₂.get? b = some o := fun b o hb => hk₂ b o (by simpa using hb)
      refine wpAny_assign_Name (wpAny_storeName_local hx (m := m') (by rw [hCl]; exact hn'.at' fun o e => hk₂' _ o hCI e) (fun h₃ hn₃ sb₃ => ?_) (by simp [hCk]))
      rw [hCl] at hn₃ sb₃
      dsimp only at sb₃
      have kp₃ : ∀ b o, b ≠ I → b ≠ C → h'.get? b = some o → h₃.get? b = some o := fun b o hb hbu e => sb₃.extBut b o hbu (hk₂' b o hb e)
      have kpS₃ : ∀ b o, b ≠ I → s₂.heap.get? b = some o → h₃.get? b = some o := fun b o hb e => kp₃ b o hb (old b o e).1 (kp' b o hb e)
      have hst₃ : IsRangeIter h₃ I (a₀ + ((i + 1 : Nat) : Int) * 1) ((n : Int) - ((i + 1 : Nat) : Int)) 1 := sb₃.extBut I _ (Ne.symm hCI) hst₂
      refine wpAny_mono (second i tv h₃ _ _ E' hlt hn₃ (by simp [Int.mul_one]) kpS₃) (fun xv s₄ q => ?_) fun _ _ e => e
      obtain ⟨⟨h₄, tk₄, rfl, kp₄⟩, r, t9, u9, v9, rfl, hr, hsm, hn2⟩ := q
      dsimp only at kp₄ hr
      refine wpAny_pyIter_range hr hsm ?_
      generalize hI2 : h₄.objs.size = I2
      rw [hn2]
      have W2 := Walks.range (prog := prog) (w := w) hh I2 0 1 (len2 i)
      generalize hH5 : h₄.push { cls := .type "range_iterator", data := .fields #[rawInt 0, rawInt ((len2 i : Nat) : Int), rawInt 1] } = H5
      have kp₅ : ∀ b o, h₄.get? b = some o → H5.get? b = some o := fun b o e => hH5 ▸ Heap.get?_push_of_some _ e
      have st5 : IsRangeIter H5 I2 0 ((len2 i : Nat) : Int) 1 := by rw [← hH5, ← hI2]; exact Heap.get?_push_size _ rfl
      have below2 : ∀ b o, h₄.get? b = some o → b ≠ I2 := fun b o e => by rw [← hI2]; exact Nat.ne_of_lt (Heap.lt_size e)
      have hD₄ : h₄.get? D = some (lst ys) := kp₄ _ _ (kp₃ _ _ hDI (Ne.symm hCD) hD')
      have hn₄ := hn₃.keeps kp₄
      have hst₄ : IsRangeIter h₄ I _ _ 1 := kp₄ _ _ hst₃
      have hmx : (fun z => if z = x then some (Value.int (a₀ + (i : Int) * 1) tv) else m' z) x = some (Value.int (a₀ + (i : Int)) tv) := by simp [Int.mul_one]
      have inner : ∀ s₆ : Shared, s₆ = { s₂ with heap := H5, toks := tk₄ } → codeAny (model prog w) A (.compLoop (Two elt iter iter2 x y px py scope pos) 1 (.ref I2) (.ref D) cenv)
          (fun r s' => match r with | .ok _ => ∃ m, m < n + 1 - i ∧ OInv s₂ n a₀ I C D J m s' | .error _ => False) s₆ := by
        rintro s₆ rfl
        refine codeAny_loop1
          (IInv s₂ n (len2 i) a₀ i tv x I I2 C D J) ?_ (len2 i + 1)
          (.mk H5 _ 0 ys _ (Nat.zero_le _) (by simpa using st5) (hn₄.keeps kp₅) hmx (kp₅ _ _ hD₄) (hJ _ _ _ _ _ j' (fun b o hb _ e => kp₅ _ _ (kp₄ _ _ (kp₃ b o (aI b hb) (Nat.ne_of_gt hb) e)))) (fun b o hb e => kp₅ _ _ (kp₄ _ _ (kpS₃ b o hb e))) (kp₅ _ _ hst₄))
        rintro k s' ⟨h6, tk6, j, ys6, m6, hj, hst6, hn6, hm6, hD6, j6, kp6, hI6⟩ E6
        have hI2I : I ≠ I2 := below2 _ _ hst₄
        have hI2C : C ≠ I2 := by obtain ⟨_, _, _, e, _⟩ := hn₄; exact below2 _ _ e
        have hI2D : D ≠ I2 := below2 _ _ hD₄
        have tupI : ∀ b o, o.cls = .type "tuple" → h6.get? b = some o → b ≠ I2 := by
          rintro b o ho e rfl
          have := Option.some.inj (e.symm.trans hst6)
          rw [this] at ho
          exact absurd (show Value.type "range_iterator" = .type "tuple" from ho) (by decide)
        by_cases hlt2 : j < len2 i
        · refine W2.item j _ _ _ hlt2 hst6 fun v h7 tk7 hP7 hst7 hk7 => ?_
          obtain ⟨tw, rfl⟩ := hP7
          have hk7' : ∀ b o, b ≠ I2 → h6.get? b = some o → h7.get? b = some o := fun b o hb => hk7 b o (by simpa using hb)
          refine wpAny_assign_Name (wpAny_storeName_local hy (m := m6) (by rw [hCl]; exact hn6.at' fun o e => hk7' _ o hI2C e) (fun h8 hn8 sb8 => ?_) (by simp [hCk]))
          rw [hCl] at hn8 sb8
          dsimp only at sb8
          have kp8 : ∀ b o, b ≠ I2 → b ≠ C → h6.get? b = some o → h8.get? b = some o := fun b o hb hbu e => sb8.extBut b o hbu (hk7' b o hb e)
          have kpS8 : ∀ b o, b ≠ I → s₂.heap.get? b = some o → h8.get? b = some o := fun b o hb e => kp8 b o (below2 _ _ (kp₄ _ _ (kpS₃ b o hb e))) (old b o e).1 (kp6 b o hb e)
          refine wpAny_mono (turn i j tv tw ys6 h8 _ _ E6 hlt hlt2 (hJ _ _ _ _ _ j6 fun b o hb ho e => kp8 b o (tupI b o ho e) (Nat.ne_of_gt hb) e) hn8 (by simp [hxy, hm6]) (by simp [Int.mul_one]) kpS8) (fun v9 s9 q9 => ?_) fun _ _ e => e
          obtain ⟨⟨h9, tk9, rfl, kp9⟩, j9⟩ := q9
          dsimp only at kp9 j9
          have hD9 : h9.get? D = some (lst ys6) := kp9 _ _ (kp8 _ _ hI2D (Ne.symm hCD) hD6)
          refine append_at (hsz := by (show ys6.toArray.size ≤ sizeLine); rw [List.size_toArray]; exact hsz _ _ _ _ j6 hi) hD9 fun h10 sb10 hD10 => ?_
          have s8 : IsRangeIter h8 I2 (0 + ((j + 1 : Nat) : Int) * 1) (((len2 i : Nat) : Int) - ((j + 1 : Nat) : Int)) 1 := sb8.extBut I2 _ (Ne.symm hI2C) hst7
          refine ⟨len2 i + 1 - (j + 1), lt_turn hlt2, .mk h10 _ (j + 1) (ys6 ++ [v9]) _ hlt2 (sb10.extBut I2 _ (Ne.symm hI2D) (kp9 _ _ s8)) ((hn8.keeps kp9).sameBut sb10 hCD) ?_ (hD10.trans (congrArg some (PyProof.Rows.LCg.lst_snoc ys6 v9))) (hJ _ _ _ _ _ j9 (fun b o hb _ e => sb10.extBut b o (aD b hb) e))
              (fun b o hb e => sb10.extBut b o (old b o e).2 (kp9 _ _ (kpS8 b o hb e))) (sb10.extBut I _ (Ne.symm hDI) (kp9 _ _ (kp8 _ _ hI2I (Ne.symm hCI) hI6)))⟩
          simp [hxy, hm6]
        · obtain rfl : j = len2 i := Nat.le_antisymm hj (Nat.not_lt.mp hlt2)
          refine W2.done _ _ _ hst6 fun h7 tk7 hk7 => ?_
          have hk7' : ∀ b o, b ≠ I2 → h6.get? b = some o → h7.get? b = some o := fun b o hb => hk7 b o (by simpa using hb)
          exact ⟨n + 1 - (i + 1), lt_turn hlt, .mk h7 tk7 (i + 1) ys6 _ hlt (hk7' _ _ hI2I hI6) (hn6.at' fun o e => hk7' _ o hI2C e) (hk7' _ _ hI2D hD6) (hJn _ _ _ (hJ _ _ _ _ _ j6 fun b o hb ho e => hk7' b o (tupI b o ho e) e)) fun b o hb e => hk7' b o (below2 _ _ (kp₄ _ _ (kpS₃ b o hb e))) (kp6 b o hb e)⟩
      refine compStart1 (inner _ rfl) fun E7 => ?_
      exact W2.self 0 _ _ _ (by simpa using st5) (inner _ rfl)
    · obtain rfl : i = n := Nat.le_antisymm hi (Nat.not_lt.mp hlt)
      refine W.done _ _ _ hst' fun h₂ tk₂ hk₂ => ?_
      have hk₂' : ∀ b o, b ≠ I → h'.get? b = some o → h₂.get? b = some o := fun b o hb => hk₂ b o (by simpa using hb)
      exact hRR h₂ tk₂ m' ys (fun b o hb e => hk₂' b o hb (kp' b o hb e)) (hk₂' _ _ hDI hD') (hJ _ _ _ _ _ j' fun b o hb _ e => hk₂' b o (aI b hb) e) (hn'.at' fun o e => hk₂' _ o hCI e)
  have hce : ({ newEnv scope C env.globals cl env.qual none .none (some env) builtinsNs with scope := relabel scope env } : Env) = cenv := by rw [hcenv]; rfl
  have hlo : (newEnv scope C env.globals cl env.qual none .none (some env) builtinsNs).locals = C := rfl
  rw [hce, hlo]
  exact codeAny_compStart_list (loop _ rfl) (W.self 0 _ _ _ (by simpa using stay2 _ _ hst) (loop _ rfl))
theorem two_assign {cl : List (Str × Addr)} {z : Str} {pz spos : Pos} {h₀ : Heap} {m : Str → Option Value} {Q : Flow → Shared → Prop} (hh : A.handled = none)
    (hclos : closureFor scope env = pure cl) (hkind : scope.kind = .function) (hnames : ∀ y ∈ scope.names, y.2 = .local → scope.names.lookup y.1 = some .local)
    (hcells : ∀ k, cellsFrom k scope.names cl = cl) (hpush : ∀ h : Heap, pushCells h scope.names = h) (hx : (relabel scope env).names.lookup x = some .local) (hy : (relabel scope env).names.lookup y = some .local) (hxy : x ≠ y)
    (hsw : swapsWith (Two elt iter iter2 x y px py scope pos) (some (.Name z pz)) spos.line env = pure true)
    (hz : env.kindOf z = some .local) (hp : (env.scope.kind == .class || (env.scope.kind == .module && env.locals != env.globals)) = false) (F : Fr h₀ env.locals s.heap m)
    (h : wpAny (model prog w) A (eval iter env) (fun xv s₁ => Fr h₀ env.locals s₁.heap m ∧ ∃ (n : Nat) (r : Addr) (t u v : Tok) (len2 : Nat → Nat) (J : Nat → Nat → List Value → Heap → Prop) (I : Addr) (cenv : Env), xv = .ref r ∧ IsRange s₁.heap r 0 n 1 t u v ∧ Builtin.Range.small 0 n 1 = true ∧ Builtin.Range.rangeSize 0 n 1 = (n : Int) ∧
      I = s₁.heap.objs.size ∧ cenv = compEnvC scope cl (I + 2) env ∧
      (∀ i k ys h, J i k ys h → i ≤ n → ys.length ≤ sizeLine) ∧
      (∀ i k ys h h', J i k ys h → (∀ b o, I + 2 < b → o.cls = .type "tuple" → h.get? b = some o → h'.get? b = some o) → J i k ys h') ∧
      J 0 0 [] s₁.heap ∧ (∀ i ys h, J i (len2 i) ys h → J (i + 1) 0 ys h) ∧ (∀ x, foldedSetIterable iter2 cenv x = pure x) ∧
      (∀ i t h tk m (E' : Value → Shared → Prop), i < n → h.Ns (I + 2) m → m x = some (.int i t) → (∀ b o, s₁.heap.get? b = some o → h.get? b = some o) →
        wpAny (model prog w) A (eval iter2 cenv) (fun xv s₃ => Keeps { s₁ with heap := h, toks := tk } s₃ ∧ ∃ r t u v, xv = .ref r ∧ IsRange s₃.heap r 0 (len2 i) 1 t u v ∧ Builtin.Range.small 0 (len2 i) 1 = true ∧ Builtin.Range.rangeSize 0 (len2 i) 1 = ((len2 i : Nat) : Int)) E' { s₁ with heap := h, toks := tk }) ∧
      (∀ i k t t' ys h tk m (E' : Value → Shared → Prop), i < n → k < len2 i → J i k ys h → h.Ns (I + 2) m → m x = some (.int i t) → m y = some (.int k t') → (∀ b o, s₁.heap.get? b = some o → h.get? b = some o) →
        wpAny (model prog w) A (eval elt cenv) (fun v s₄ => Keeps { s₁ with heap := h, toks := tk } s₄ ∧ J i (k + 1) (ys ++ [v]) s₄.heap) E' { s₁ with heap := h, toks := tk }) ∧
      (∀ h tk ys, (∀ b o, b ≠ env.locals → s₁.heap.get? b = some o → h.get? b = some o) → h.get? (I + 1) = some (lst ys) → J n 0 ys h → h.Ns env.locals (fun q => if q = z then some (.ref (I + 1)) else m q) → Q .next { s₁ with heap := h, toks := tk })) E s)
    (hf : ∀ x, foldedSetIterable iter env x = pure x := by intro _; rfl) :
    wpAny (model prog w) A (exec (.Assign [.Name z pz] (Two elt iter iter2 x y px py scope pos) spos) env) Q E s := by
  rw [exec_Assign_Name_used _ _ _ _ hsw]
  refine wpAny_bind (wpAny_standAt (wpAny_bind ?_))
  show wpAny _ A (do let _ ← comprehension (Two elt iter iter2 x y px py scope pos) scope env _ (newList []) false (eval iter env) (some (assign (.Name z pz) env))) _ _ s
  refine wpAny_bind (wpAny_mono (wpAny_comprehension_free (use := some (assign (.Name z pz) env)) (Q := fun _ s' => Q .next s') rfl hf hclos hkind hnames
    (wpAny_mono h (fun xv s₁ h₁ => ?_) fun _ _ e => e)) (fun _ s' hq => wpAny_pure (wpAny_pure hq)) fun _ _ e => e)
  obtain ⟨F₁, n, r, t, u, v, len2, J, I, cenv, rfl, hr, hsm, hn, hI, hcenv, hlen, hJ, hJ0, hJn, hf2, second, turn, fin⟩ := h₁
  refine wpAny_pyIter_range hr hsm ?_
  rw [← hI]
  generalize hio : ({ cls := .type "range_iterator", data := .fields #[rawInt 0, rawInt (Builtin.Range.rangeSize 0 n 1), rawInt 1] } : Obj) = io
  have up : ∀ b o, s₁.heap.get? b = some o → (s₁.heap.push io).get? b = some o := fun b o e => Heap.get?_push_of_some _ e
  have hsz' : (s₁.heap.push io).objs.size = I + 1 := by rw [Heap.size_push, hI]
  refine block_2 (s₂ := { s₁ with heap := s₁.heap.push io }) (I := I) (n := n) (a₀ := 0) (C := I + 2) (D := I + 1) (cenv := cenv) (len2 := len2) J hh ?_ hlen hsz'.symm rfl hcenv (hcells _) hpush hkind
    (by rw [hcenv]; exact hx) (by rw [hcenv]; exact hy) hxy hJ (hJ _ _ _ _ _ hJ0 fun b o _ _ e => up b o e) hJn hf2 ?_ ?_ ?_
  · rw [hI, ← hio, hn]; exact Heap.get?_push_size _ rfl
  · intro i t h tk m E' hi hns hm kp
    exact second i t h tk m E' hi hns (by rw [hm]; simp) fun b o e => kp b o (lt_ne e hI) (up b o e)
  · intro i k t t' ys h tk m E' hi hk hj hns hm hm' kp
    exact turn i k t t' ys h tk m E' hi hk hj hns (by rw [hm]; simp) hm' fun b o e => kp b o (lt_ne e hI) (up b o e)
  · intro h tk m' ys kp hD hj hn'
    have kp' : ∀ b o, s₁.heap.get? b = some o → h.get? b = some o := fun b o e => kp b o (lt_ne e hI) (up b o e)
    have hLC : env.locals ≠ I + 2 := by rw [hI]; exact Nat.ne_of_lt (Nat.lt_of_lt_of_le F₁.ns.lt (Nat.le_add_right _ _))
    have hLD : env.locals ≠ I + 1 := by rw [hI]; exact Nat.ne_of_lt (Nat.lt_of_lt_of_le F₁.ns.lt (Nat.le_add_right _ _))
    have hLI : ∀ b, I + 2 < b → b ≠ env.locals := fun b hb q => by
      have := F₁.ns.lt
      rw [← hI, ← q] at this
      exact absurd (Nat.lt_trans (Nat.lt_of_le_of_lt (Nat.le_add_right I 2) hb) this) (Nat.lt_irrefl _)
    show wpAny _ A (assign (.Name z pz) env (.ref _)) _ _ _
    refine wpAny_assign_Name (wpAny_storeName_local hz (F₁.ns.keeps kp') (fun h₂ hn₂ hs₂ => ?_) hp)
    refine ⟨m', hn'.sameBut hs₂ (Ne.symm hLC), fun h₃ hs₃ => ?_⟩
    refine fin h₃ _ ys (fun b o hb e => hs₃.extBut b o ?_ (hs₂.extBut b o hb (kp' b o e))) (hs₃.extBut _ _ (Nat.ne_of_lt (Nat.lt_succ_self _)) (hs₂.extBut _ _ (Ne.symm hLD) hD)) (hJ _ _ _ _ _ hj fun b o hb _ e => hs₃.extBut b o (Nat.ne_of_gt hb) (hs₂.extBut b o (hLI b hb) e)) (hn₂.sameBut hs₃ hLC)
    rintro rfl
    have := Heap.lt_size e
    rw [← hI] at this
    exact absurd this (Nat.not_lt.mpr (Nat.le_add_right _ _))
end
end Mine

-- part Btw
namespace Mine
set_option maxRecDepth 100000
set_option maxHeartbeats 8000000
local macro_rules | `(tactic| walk_at $s:str) => `(tactic| k_extra $(Lean.Syntax.mkStrLit ("MY@" ++ s.getString)))
theorem words_Btw : True := by
  k_with_none
  k_with "MY@MY tk" => with_reducible (first | assumption | exact Tks.add (by assumption) | exact Tks.add (Tks.add (by assumption)))
  k_with "MY@MY lit" => first | with_reducible rfl | exact lit257 | exact litSpQ | exact litQ | exact litE | exact lit257Q | exact litLies
  k_with "MY@MY len" => first | assumption | (simp only [List.length_append, List.length_cons, List.length_nil, List.length_replicate, rep] at *; omega)
  k_with "MY@MY int" => first | decide | omega
  k_with "MY@subscriptTail Name Slice str ref" => (k_here; (with_reducible show wpAny _ _ (subscriptTail _ _ (Value.str (S _) _) (Value.ref _)) _ _ _); (refine' with_k (by walk_at "MY tk") ?_); k_dflt (first | (refine' sub_from (s := ⟨_, _, _, _, _⟩) (by k_asm) (by k_asm) (by walk_at "MY len") (by walk_at "MY int") _ (by walk_at "MY cut") ?_) | (refine' sub_to (s := ⟨_, _, _, _, _⟩) (by k_asm) (by k_asm) (by walk_at "MY len") (by walk_at "MY int") _ (by walk_at "MY cut") ?_) | (refine' sub_to_neg (s := ⟨_, _, _, _, _⟩) (by k_asm) (by k_asm) (by walk_at "MY len") (by walk_at "MY int") _ (by walk_at "MY cut") ?_) | (refine' sub_all (s := ⟨_, _, _, _, _⟩) (by k_asm) (by k_asm) (by walk_at "MY len") ?_) | (refine' sub_run (s := ⟨_, _, _, _, _⟩) (by k_asm) (by k_asm) (by walk_at "MY len") (by walk_at "MY int") (by walk_at "MY int") (by walk_at "MY len") _ (by walk_at "MY cut") ?_)); intro _ _ _ _ _ hT9_k9; (try dsimp only at hT9_k9); (try dsimp only))
  k_with "MY@subscriptTail Name Name str int" => (k_here; (with_reducible show wpAny _ _ (subscriptTail _ _ (Value.str (S _) _) (Value.int _ _)) _ _ _); k_dflt (refine' sub_item (by walk_at "MY len") (by walk_at "MY len") (by walk_at "MY len") _ (by walk_at "MY item") ?_); (try dsimp only))
  k_with "MY@subscriptTail Name BinOp str int" => (k_here; (with_reducible show wpAny _ _ (subscriptTail _ _ (Value.str (S _) _) (Value.int _ _)) _ _ _); k_dflt (refine' sub_item (by walk_at "MY len") (by walk_at "MY len") (by walk_at "MY len") _ (by walk_at "MY item") ?_); (try dsimp only))
  k_with "MY@compareOp NotEq str str" => (k_here; k_dflt (first | (refine' ne_no' (by walk_at "MY lit") (by walk_at "MY lit") (by first | rfl | walk_at "MY eq") ?_) | (refine' ne_yes' (by walk_at "MY lit") (by walk_at "MY lit") (by first | decide | walk_at "MY ne") ?_)); (try dsimp only))
  k_with "MY@compareOp Eq str str" => (k_here; k_dflt (first | (refine' eq_yes' (by walk_at "MY lit") (by walk_at "MY lit") (by first | rfl | walk_at "MY eq") ?_) | (refine' eq_no' (by walk_at "MY lit") (by walk_at "MY lit") (by first | decide | walk_at "MY ne") ?_)); (try dsimp only))
  k_with "MY@call builtin:len" => (k_here; k_dflt (refine len_S (by walk_at "MY len") ?_); (try dsimp only))
  k_with "MY@binaryOp Add str str" => (k_here; (refine' with_k (by walk_at "MY tk") ?_); k_dflt (refine' add_S' (by walk_at "MY lit") (by walk_at "MY lit") (by walk_at "MY len") ?_); intro t9_k9 k9_k9 hT9_k9; (try dsimp only at hT9_k9); (try dsimp only))
  k_with "MY@MY free" => ((fail_if_success (with_reducible show wpAny _ _ (exec (Stmt.While _ _ _ _) _) _ _ _)); (fail_if_success (with_reducible show WhileStep2 _ _ _ _ _ _ _ _)); (fail_if_success (with_reducible show WStep _ _ _ _ _ _ _ _)))
  k_with "MY@MY steps" => repeat' (first | (k_unfold; (try dsimp only)) | (k_end; wrow_close) | (walk_at "MY free"; first | walk1 | (dsimp only; walk1) | (leave1; walk_say "STEP leave1"; try dsimp only)) | fail "no step")
  k_with "MY@MY cut" => with_reducible rfl
  k_with "MY@truthy str" => (k_here; k_dflt (first | (refine truthy_S (by walk_at "MY len") true (by refine decide_eq_true ?_; walk_at "MY full") ?_) | (refine truthy_S (by walk_at "MY len") false (by refine decide_eq_false ?_; refine not_not_intro ?_; walk_at "MY empty") ?_)); (try dsimp only))
  k_with "MY@execs cons" => (k_here; (refine' execs_cons_k (by walk_at "MY tk") ?_); intro tk_q_k9 hT9_k9; (try dsimp only at hT9_k9))
  k_with "MY@execs nil" => (k_here; refine wpAny_execs_nil ?_)
  k_with "MY@MY len" => first | (simp only [WL_len, XX_len, RL_len, rep_len, List.length_drop, List.length_append, List.length_cons, List.length_nil]; omega)
  k_with "MY@binaryOp Mult str int" => (k_here; (refine' with_k (by walk_at "MY tk") ?_); k_dflt (refine' mul_rep (by walk_at "MY lit") (by omega) (by omega) _ (by first | assumption | with_reducible rfl) ?_); intro _ _ hT9_k9; (try dsimp only at hT9_k9 ⊢))
  k_with "MY@call builtin:hasattr" => (k_here; (refine' with_k (by walk_at "MY tk") ?_); k_dflt (first | (refine' has_str (by k_asm) (by k_asm) ?_) | (refine' has_list (by k_asm) (by k_asm) (by walk_at "MY list") ?_)); intro _ _ _ _ hT9_k9; (try dsimp only at hT9_k9 ⊢))
  k_with "MY@MY room" => (first | omega | ktr_room | k_room)
  k_with "MY@MY units" => (first | omega | ktr_units)
  k_with "MY@MY enter" => (refine' code_def ?k1_z8 ?k2_z8 ?k3_z8 ?k4_z8 ?k5_z8 ?kA_z8 ?kF_z8 ?kK_z8 ?k6_z8 ?k7_z8 ?k8_z8 ?k9_z8 ?kB_z8 ?_ ?c2_z8 ?c3_z8 ?c4_z8 ?c5_z8; (case kA_z8 => exact rfl); (case kF_z8 => exact rfl); (case kK_z8 => first | exact rfl | assumption); (case k1_z8 => k_asm); (case k2_z8 => k_asm); (case k3_z8 => k_asm); (case k4_z8 => k_asm); (case k5_z8 => k_asm); (case k6_z8 => k_is); (case k7_z8 => k_is); (case k8_z8 => walk_at "MY room"); (case k9_z8 => exact BindsTo.of_eq rfl); (case c5_z8 => decide); (case kB_z8 => exact locs rfl); (case c2_z8 => exact rfl); (case c3_z8 => exact rfl); (case c4_z8 => exact rfl); k_whole; intro g_q_k9 L_q_k9 h_q_k9 FG_q_k9 F_q_k9 N_q_k9 B_q_k9 X_q_k9 T_q_k9; (try dsimp only); (try k_lift B_q_k9); (try k_fold))
  k_with "MY@call ref" => (k_here; (with_reducible show wpAny _ _ (call (Value.ref 81) _) _ _ _); refine wpAny_call ?_; k_dflt walk_at "MY enter")
  k_with "MY@call ref" => (k_here; (with_reducible show wpAny _ _ (call (Value.ref 102) _) _ _ _); (refine' with_k (by walk_at "MY tk") ?_); k_dflt (refine' cb_use (lev_spec _ _ _ _ _ _ _ _ _ _ _ _) (by k_asm) (by k_asm) (by k_asm) (by k_asm) (by k_asm) (by first | exact rfl | assumption) (by assumption) (by walk_at "MY room") (by walk_at "MY units") ?_); intro t9_k9 h9_k9 tk9_k9 F9_k9 N9_k9 hT9_k9; (try dsimp only at hT9_k9 ⊢))
  k_with "MY@call ref" => (k_here; (with_reducible show wpAny _ _ (call (Value.ref 46) _) _ _ _); k_dflt (refine' ct_use (parse257_spec _ _ _ _ _ _ _ _) (by k_asm) (by k_asm) (by k_asm) (by k_asm) (by k_asm) (by first | exact rfl | assumption) (by (refine ⟨?_, ?_⟩ <;> first | omega | decide)) (by walk_at "MY room") (by walk_at "MY units") ?_); intro v9_k9 add9_k9 h9_k9 tk9_k9 hT9_k9 hR9_k9 F9_k9 N9_k9 hA9_k9; obtain ⟨hA8, t9, hA7, hS9⟩ := hR9_k9; subst hA8; subst hA7; (try dsimp only at hT9_k9 hS9 ⊢); replace hT9_k9 := Tks.up (by assumption) hT9_k9)
  trivial

theorem between_spec (w : World) (mean : ExcName → Option Value) (mg mb : Str → Option Value) (news : List (Addr × Obj)) (t u v z : Tok) (c p q : Nat) (mc : Int) :
   ClmT 3 20 PySem.Challenge.rw_wn0056_01.row.prog w (hd.heap_39 w.params) hd.view_39 (looseW hd.view_39 []) mean mg mb 109 news (fun _ => c ≠ 34 ∧ p ≠ q ∧ p ≤ 100 ∧ q ≤ 100) [Value.str (S (rep p)) t, Value.str (S (rep q)) u, Value.str (S [c]) v, Value.int mc z]
     (fun T0 T1 r add => add = [] ∧ ∃ t : Nat, r = Value.str (S (rep (max p q - min p q))) t ∧ T0 ≤ t ∧ t < T1) := by
  k_fill
  intro dp un gd cn cs a ccd cl outer A₀ base h₀ L m s Q E B F X N T hk
  intro hp hd hu hret
  have hkey : (2 * (((max p q : Nat) : Int) - ((min p q : Nat) : Int))).toNat = 2 * (max p q - min p q) := by omega
  have hB := Tks.one s.toks
  have hd1 : 1 ≤ max p q - min p q := by omega
  refine wpAny_call ?_
  k_dflt cell_enter
  walk_at "MY steps"
  rename (1 ≤ max p q - min p q → _) => hS
  have hS8 := hS hd1
  exact hret _ [] _ _ (Tks.hd (by assumption)) ⟨rfl, _, rfl, Nat.le_trans (Tks.hd (by assumption)) hS8.1, hS8.2⟩ (by assumption) (by assumption) (fun _ h => nomatch h)
end Mine

-- part Cnt
namespace Mine
set_option maxRecDepth 100000
set_option maxHeartbeats 8000000
local macro_rules | `(tactic| walk_at $s:str) => `(tactic| k_extra $(Lean.Syntax.mkStrLit ("MY@" ++ s.getString)))
theorem words_Cnt : True := by
  k_with_none
  k_with "MY@MY tk" => with_reducible (first | assumption | exact Tks.add (by assumption) | exact Tks.add (Tks.add (by assumption)))
  k_with "MY@MY lit" => first | with_reducible rfl | exact lit257 | exact litSpQ | exact litQ | exact litE | exact lit257Q | exact litLies
  k_with "MY@MY len" => first | assumption | (simp only [List.length_append, List.length_cons, List.length_nil, List.length_replicate, rep] at *; omega)
  k_with "MY@MY int" => first | decide | omega
  k_with "MY@subscriptTail Name Slice str ref" => (k_here; (with_reducible show wpAny _ _ (subscriptTail _ _ (Value.str (S _) _) (Value.ref _)) _ _ _); (refine' with_k (by walk_at "MY tk") ?_); k_dflt (first | (refine' sub_from (s := ⟨_, _, _, _, _⟩) (by k_asm) (by k_asm) (by walk_at "MY len") (by walk_at "MY int") _ (by walk_at "MY cut") ?_) | (refine' sub_to (s := ⟨_, _, _, _, _⟩) (by k_asm) (by k_asm) (by walk_at "MY len") (by walk_at "MY int") _ (by walk_at "MY cut") ?_) | (refine' sub_to_neg (s := ⟨_, _, _, _, _⟩) (by k_asm) (by k_asm) (by walk_at "MY len") (by walk_at "MY int") _ (by walk_at "MY cut") ?_) | (refine' sub_all (s := ⟨_, _, _, _, _⟩) (by k_asm) (by k_asm) (by walk_at "MY len") ?_) | (refine' sub_run (s := ⟨_, _, _, _, _⟩) (by k_asm) (by k_asm) (by walk_at "MY len") (by walk_at "MY int") (by walk_at "MY int") (by walk_at "MY len") _ (by walk_at "MY cut") ?_)); intro _ _ _ _ _ hT9_k9; (try dsimp only at hT9_k9); (try dsimp only))
  k_with "MY@subscriptTail Name Name str int" => (k_here; (with_reducible show wpAny _ _ (subscriptTail _ _ (Value.str (S _) _) (Value.int _ _)) _ _ _); k_dflt (refine' sub_item (by walk_at "MY len") (by walk_at "MY len") (by walk_at "MY len") _ (by walk_at "MY item") ?_); (try dsimp only))
  k_with "MY@subscriptTail Name BinOp str int" => (k_here; (with_reducible show wpAny _ _ (subscriptTail _ _ (Value.str (S _) _) (Value.int _ _)) _ _ _); k_dflt (refine' sub_item (by walk_at "MY len") (by walk_at "MY len") (by walk_at "MY len") _ (by walk_at "MY item") ?_); (try dsimp only))
  k_with "MY@compareOp NotEq str str" => (k_here; k_dflt (first | (refine' ne_no' (by walk_at "MY lit") (by walk_at "MY lit") (by first | rfl | walk_at "MY eq") ?_) | (refine' ne_yes' (by walk_at "MY lit") (by walk_at "MY lit") (by first | decide | walk_at "MY ne") ?_)); (try dsimp only))
  k_with "MY@compareOp Eq str str" => (k_here; k_dflt (first | (refine' eq_yes' (by walk_at "MY lit") (by walk_at "MY lit") (by first | rfl | walk_at "MY eq") ?_) | (refine' eq_no' (by walk_at "MY lit") (by walk_at "MY lit") (by first | decide | walk_at "MY ne") ?_)); (try dsimp only))
  k_with "MY@call builtin:len" => (k_here; k_dflt (refine len_S (by walk_at "MY len") ?_); (try dsimp only))
  k_with "MY@binaryOp Add str str" => (k_here; (refine' with_k (by walk_at "MY tk") ?_); k_dflt (refine' add_S' (by walk_at "MY lit") (by walk_at "MY lit") (by walk_at "MY len") ?_); intro t9_k9 k9_k9 hT9_k9; (try dsimp only at hT9_k9); (try dsimp only))
  k_with "MY@MY free" => ((fail_if_success (with_reducible show wpAny _ _ (exec (Stmt.For _ _ _ _ _) _) _ _ _)); (fail_if_success (with_reducible show wpAny _ _ (exec (Stmt.While _ _ _ _) _) _ _ _)); (fail_if_success (with_reducible show FStep _ _ _ _ _ _ _ _ _)); (fail_if_success (with_reducible show wpAny _ _ (pyIter _) _ _ _)); (fail_if_success (with_reducible show WStep _ _ _ _ _ _ _ _)); (fail_if_success (with_reducible show wpAny _ _ (exec (Stmt.Assign _ (Expr.ListComp _ _ _ _) _) _) _ _ _)); (fail_if_success (with_reducible show wpAny _ _ (eval (Expr.ListComp _ _ _ _) _) _ _ _)))
  k_with "MY@MY steps" => repeat' (first | (k_unfold; (try dsimp only)) | (k_end; wrow_close) | (walk_at "MY free"; first | walk1 | (dsimp only; walk1) | (leave1; walk_say "STEP leave1"; try dsimp only)) | fail "no step")
  k_with "MY@MY cut" => with_reducible rfl
  k_with "MY@truthy str" => (k_here; k_dflt (first | (refine truthy_S (by walk_at "MY len") true (by refine decide_eq_true ?_; walk_at "MY full") ?_) | (refine truthy_S (by walk_at "MY len") false (by refine decide_eq_false ?_; refine not_not_intro ?_; walk_at "MY empty") ?_)); (try dsimp only))
  k_with "MY@execs cons" => (k_here; (refine' execs_cons_k (by walk_at "MY tk") ?_); intro tk_q_k9 hT9_k9; (try dsimp only at hT9_k9))
  k_with "MY@execs nil" => (k_here; refine wpAny_execs_nil ?_)
  k_with "MY@execs cons Assign cons" => (k_here; (refine' execs_cons_k (by walk_at "MY tk") ?_); intro tk_q_k9 hT9_k9; (try dsimp only at hT9_k9))
  k_with "MY@MY hd" => ((try dsimp only); first | exact Tks.hd (by assumption) | exact Tks.hd (Tks.add (by assumption)) | exact Tks.hd (Tks.add (Tks.add (by assumption))) | exact Tks.hd (Tks.add (Tks.add (Tks.add (by assumption)))))
  k_with "MY@compareOp Is str str" => (k_here; k_dflt (first | (refine' is_other (by walk_at "MY lit") (by walk_at "MY lit") (by assumption) (by assumption) (by assumption) (by walk_at "MY ne") ?_) | (refine' is_maybe (by assumption) (by assumption) (by walk_at "MY booked") ?_; intro bb_k9; cases bb_k9)); (try dsimp only))
  k_with "MY@MY booked" => exact booked (Frag.In.keeps (by k_asm) (Fr.keep (by k_asm)))
  k_with "MY@MY ne" => exact fun e9 => absurd (rep_inj e9) (by assumption)
  k_with "MY@MY eq" => exact congrArg rep (by assumption)
  trivial
def keysOk (es : Array DictEntry) : Bool := es.all fun e => match e.key with | .str _ _ => true | _ => false
theorem keysOk_ok {es : Array DictEntry} (h : keysOk es = true) : StrKeys es := by
  intro e he
  have := Array.all_eq_true'.mp h e he
  split at this
  · rename_i n t q; exact ⟨n, t, q⟩
  · cases this
theorem booked_of {K : Frag} {h : Heap} {c : Value} {d : Option Addr} {es : Array DictEntry} {n : Nat} {sl : Array (Option Value)} (X : K.In h) (hk : K.lookup cStatics = some ⟨c, d, .dict es n, sl⟩) (ho : keysOk es = true) (hn : nsFind es sharingNotToldKey = none) : NoneBooked h :=
  ⟨nsFind es, ⟨_, es, n, X _ _ hk, rfl, keysOk_ok ho, fun _ => rfl⟩, hn⟩
theorem booked {w : World} {h : Heap} (X : (hd.heap_39 w.params).In h) : NoneBooked h := by
  refine' booked_of X ?hk ?ho ?hn
  case hk => with_unfolding_all exact rfl
  case ho => with_unfolding_all exact rfl
  case hn => with_unfolding_all exact rfl
def runArr (l : List (Nat × Nat)) : Array Value := (l.map fun p => Value.str (S (rep p.1)) p.2).toArray
theorem runArr_size (l : List (Nat × Nat)) : (runArr l).size = l.length := by simp [runArr]
theorem runArr_get {l : List (Nat × Nat)} {i : Nat} {v : Value} (h : (runArr l)[i]? = some v) : ∃ p, l[i]? = some p ∧ v = Value.str (S (rep p.1)) p.2 := by
  simp only [runArr, List.getElem?_toArray, List.getElem?_map] at h
  cases q : l[i]? with
  | none => rw [q] at h; cases h
  | some p => rw [q] at h; exact ⟨p, rfl, (Option.some.inj h).symm⟩
def cnt (d : Nat) (l : List (Nat × Nat)) : Nat := l.countP (·.1 == d)
theorem cnt_take {d : Nat} {l : List (Nat × Nat)} {i : Nat} {p : Nat × Nat} (h : l[i]? = some p) : cnt d (l.take (i + 1)) = cnt d (l.take i) + if p.1 = d then 1 else 0 := by
  have hi : i < l.length := (List.getElem?_eq_some_iff.mp h).1
  have e : l.take (i + 1) = l.take i ++ [p] := by
    rw [List.take_add_one, h]; rfl
  rw [e, cnt, List.countP_append, cnt, List.countP_singleton]
  by_cases hp : p.1 = d <;> simp [hp]
section
variable {prog : Program} {w : World} {A : Around} {E : Value → Shared → Prop} {s : Shared} {t u : Tok} {a b : List Nat} {x y : Str} {Q : Value → Shared → Prop}
theorem is_other (hz : x = S a) (hy : y = S b) (h0 : ¬ (t = (0 : Nat))) (h1 : ¬ (u = (0 : Nat))) (h2 : ¬ @Eq Nat t u) (e : a ≠ b) (h : Q (.bool false) s) : wpAny (model prog w) A (compareOp .Is (.str x t) (.str y u)) Q E s := by
  subst hz hy
  show wpAny _ A (do return .bool (← isSame (.str (S a) t) (.str (S b) u))) Q E s
  refine wpAny_bind (wpAny_of_eq (isSame_str_other _ _ _ _ ?_ ?_ ?_) (wpAny_pure h))
  · have h0' : (t == (0 : Nat)) = false := by simpa using h0
    have h1' : (u == (0 : Nat)) = false := by simpa using h1
    exact (by show ((t == (0 : Nat)) || (u == (0 : Nat))) = false; rw [h0', h1']; rfl)
  · exact (by simpa using h2)
  · rw [S_beq]; exact decide_eq_false e
theorem is_maybe (h0 : ¬ (t = (0 : Nat))) (h1 : ¬ (u = (0 : Nat))) (hb : NoneBooked s.heap) (h : ∀ b, Q (.bool b) s) : wpAny (model prog w) A (compareOp .Is (.str x t) (.str y u)) Q E s := by
  show wpAny _ A (do return .bool (← isSame (.str x t) (.str y u))) Q E s
  refine wpAny_bind (wpAny_isSame_str ?_ hb fun b => wpAny_pure (h b))
  have h0' : (t == (0 : Nat)) = false := by simpa using h0
  have h1' : (u == (0 : Nat)) = false := by simpa using h1
  exact (by show ((t == (0 : Nat)) || (u == (0 : Nat))) = false; rw [h0', h1']; rfl)
end
theorem isList_of {h₀ h : Heap} {L a : Addr} {news : List (Addr × Obj)} {its : Array Value} {k : Nat} (N : News h₀ L h news) (hm : (a, listOf its k) ∈ news) : h.IsList a its := ⟨_, (N _ hm).1, rfl, _, rfl⟩

theorem count_list_spec (w : World) (mean : ExcName → Option Value) (mg mb : Str → Option Value) (news : List (Addr × Obj)) (a' : Addr) (l : List (Nat × Nat)) (k d u : Nat) :
   Clm 1 20 PySem.Challenge.rw_wn0056_01.row.prog w (hd.heap_39 w.params) hd.view_39 (looseW hd.view_39 []) mean mg mb 88 news ((a', listOf (runArr l) k) ∈ news ∧ u ≠ 0 ∧ ∀ p ∈ l, p.2 ≠ 0 ∧ p.2 ≠ u) [Value.ref a', Value.str (S (rep d)) u] (fun v add => add = [] ∧ ∃ t, v = Value.int (cnt d l) t) := by
  k_fill
  intro dp un gd cn cs a ccd cl outer A₀ base h₀ L m s Q E B F X N T hk
  intro hp hd hu hret
  obtain ⟨hmem, hu0, hl⟩ := hp
  refine wpAny_call ?_
  k_dflt cell_enter
  have hB : Tks [s.toks] s.toks := Tks.one s.toks
  walk_at "MY steps"
  rename Fr _ _ _ _ => F1
  rename News _ _ _ _ => N1
  refine For_t (s := ⟨_, _, _, _, _⟩) F1 rfl rfl ?_
  walk_at "MY steps"
  refine loop_list (s := ⟨_, _, _, _, _⟩) (fun i m nw tk => HI m "count" (cnt d (l.take i)) ∧ m "b" = some (Value.str (S (rep d)) u) ∧ nw = news) rfl F1 N1 (isList_of N1 hmem) ⟨HI.mk rfl rfl, rfl, rfl⟩ ?keep ?up ?step ?fin
  case keep =>
    intro i h' m' nw tk N' J'
    exact isList_of (J'.2.2 ▸ N') hmem
  case up => exact fun _ _ _ _ _ _ h => h
  case fin =>
    intro h' tk m' nw F' N' J'
    obtain ⟨⟨tc, e1⟩, e2, rfl⟩ := J'
    rw [runArr_size, List.take_length] at e1
    have F3 := fr_of F' [("count", _), ("b", _)] (List.forall_mem_cons.mpr ⟨e1, List.forall_mem_cons.mpr ⟨e2, fun _ h => nomatch h⟩⟩)
    clear F' F1 N1 e1 e2
    dsimp only [kstB] at F3
    walk_at "MY steps"
    exact hret _ [] _ _ ⟨rfl, _, rfl⟩ (by assumption) (by assumption) (fun _ h => nomatch h)
  case step =>
    intro i v m₁ nw h₁ tk₁ I oI hi hv J1 hI F2 N2
    obtain ⟨⟨tc, e1⟩, e2, rfl⟩ := J1
    obtain ⟨p, hp, rfl⟩ := runArr_get hv
    have F3 := fr_of F2 [("count", _), ("b", _), ("i", _)] (List.forall_mem_cons.mpr ⟨e1, List.forall_mem_cons.mpr ⟨e2, List.forall_mem_cons.mpr ⟨rfl, fun _ h => nomatch h⟩⟩⟩)
    clear F2 F1 N1 e1 e2
    dsimp only [kstB] at F3
    have hct := cnt_take (d := d) hp
    obtain ⟨hp0, hpu⟩ := hl p (List.mem_of_getElem? hp)
    by_cases hpd : p.1 = d
    · rw [if_pos hpd] at hct
      walk_at "MY steps"
      all_goals exact fstep_next (by assumption) (by assumption) hI ⟨HI.mk rfl (by omega), rfl, rfl⟩
    · rw [if_neg hpd] at hct
      walk_at "MY steps"
      exact fstep_next (by assumption) (by assumption) hI ⟨HI.mk rfl (by omega), rfl, rfl⟩

theorem rep_cps_size (n : Nat) : (S (rep n)).cps.size = n := by simp [S, rep]
theorem rep_cps_get {n i c : Nat} (h : (S (rep n)).cps[i]? = some c) : c = 34 := by
  simp only [S, rep, List.getElem?_toArray] at h
  have := List.mem_of_getElem? h
  exact (List.mem_replicate.mp this).2
theorem count_str_spec (w : World) (mean : ExcName → Option Value) (mg mb : Str → Option Value) (news : List (Addr × Obj)) (n u v : Nat) :
   ClmT 1 20 PySem.Challenge.rw_wn0056_01.row.prog w (hd.heap_39 w.params) hd.view_39 (looseW hd.view_39 []) mean mg mb 88 news (fun T => 1 ≤ T ∧ v ≠ 0) [Value.str (S (rep n)) u, Value.str (Str.ofString "\"") v] (fun T0 T1 r add => add = [] ∧ ∃ t, r = Value.int n t) := by
  k_fill
  intro dp un gd cn cs a ccd cl outer A₀ base h₀ L m s Q E B F X N T hk
  intro hp hd hu hret
  obtain ⟨hT1, hv0⟩ := hp
  refine wpAny_call ?_
  k_dflt cell_enter
  have hB : Tks [s.toks] s.toks := Tks.one s.toks
  walk_at "MY steps"
  rename Fr _ _ _ _ => F1
  rename News _ _ _ _ => N1
  rename Tks _ _ => hT9
  refine For_t (s := ⟨_, _, _, _, _⟩) F1 rfl rfl ?_
  walk_at "MY steps"
  refine loop_str (s := ⟨_, _, _, _, _⟩) (fun i m nw tk => HI m "count" i ∧ m "b" = some (Value.str (Str.ofString "\"") v) ∧ nw = news ∧ s.toks ≤ tk) rfl F1 N1 ⟨HI.mk rfl rfl, rfl, rfl, ?_⟩ ?up ?step ?fin
  · exact Tks.hd (by assumption)
  case up => exact fun _ _ _ _ _ hle h => ⟨h.1, h.2.1, h.2.2.1, Nat.le_trans h.2.2.2 hle⟩
  case fin =>
    intro h' tk m' nw F' N' J'
    obtain ⟨⟨tc, e1⟩, e2, rfl, hs⟩ := J'
    rw [rep_cps_size] at e1
    have F3 := fr_of F' [("count", _), ("b", _)] (List.forall_mem_cons.mpr ⟨e1, List.forall_mem_cons.mpr ⟨e2, fun _ h => nomatch h⟩⟩)
    clear F' F1 N1 e1 e2
    dsimp only [kstB] at F3
    walk_at "MY steps"
    exact hret _ [] _ _ (by assumption) ⟨rfl, _, rfl⟩ (by assumption) (by assumption) (fun _ h => nomatch h)
  case step =>
    intro i v m₁ nw h₁ tk₁ I oI hi hv J1 hI F2 N2
    obtain ⟨⟨tc, e1⟩, e2, rfl, hs⟩ := J1
    obtain ⟨c, t, hc, rfl, ht⟩ := hv
    dsimp only at ht
    have hc34 := rep_cps_get hc
    have ht0 : ¬ (t = (0 : Nat)) := by
      have := Nat.le_trans (Tks.hd hT9) ht
      omega
    have F3 := fr_of F2 [("count", _), ("b", _), ("i", _)] (List.forall_mem_cons.mpr ⟨e1, List.forall_mem_cons.mpr ⟨e2, List.forall_mem_cons.mpr ⟨rfl, fun _ h => nomatch h⟩⟩⟩)
    clear F2 F1 N1 e1 e2
    dsimp only [kstB] at F3
    subst hc34
    have hB2 : Tks [s.toks] tk₁ := fun a ha => by rw [List.mem_singleton.mp ha]; exact hs
    clear hT9
    walk_at "MY steps"
    all_goals exact fstep_next (by assumption) (by assumption) hI ⟨HI.mk rfl (by omega), rfl, rfl, by walk_at "MY hd"⟩
end Mine

-- part Lst
namespace Mine
set_option maxRecDepth 100000
set_option maxHeartbeats 4000000
section
variable {prog : Program} {w : World} {A : Around} {E : Value → Shared → Prop} {s : Shared} {h₀ : Heap} {L : Addr} {m : Str → Option Value} {news : List (Addr × Obj)}
theorem item_l {value slice : Expr} {l : Addr} {items : Array Value} {i : Int} {u : Tok} {x : Value} {Q : Value → Shared → Prop} (hl : s.heap.IsList l items) (h0 : 0 ≤ i) (h1 : i < 1000000) (hx : items[i.toNat]? = some x) (h : Q x s)
    (hs : subscripted slice false (.ref l) (.int i u) = operate [.ref l, .int i u] (getItem (.ref l) (.int i u)) := by with_unfolding_all rfl) :
    wpAny (model prog w) A (subscriptTail value slice (.ref l) (.int i u)) Q E s :=
  tail_any hl.typeIs slot_list_getitem.lookup (wpAny_getItem_list hl h0 (by omega) hx h) hs
theorem len_l {l : Addr} {items : Array Value} {k : Nat} {Q : Value → Shared → Prop} (hl : s.heap.IsList l items) (hk : items.size = k) (hz : k ≤ 16384) (h : Q (.int k (s.toks + 1)) { s with toks := s.toks + 1 + 1 }) :
    wpAny (model prog w) A (call (.builtin "len") [.ref l]) Q E s := kun_lenL hl (by rw [hk]) (by omega) h
theorem range_l {n : Nat} (h : n ≤ 16384) : Builtin.Range.small 0 (n : Int) 1 = true := small_one (by omega) (by omega) (by omega) (by omega)
end
def Ints (its : Array Value) (xs : List Int) : Prop := its.size = xs.length ∧ ∀ (i : Nat) (x : Int), xs[i]? = some x → ∃ t : Nat, its[i]? = some (Value.int x t)
theorem Ints.at {its : Array Value} {xs : List Int} (h : Ints its xs) {i : Nat} (hi : i < xs.length) : ∃ t : Nat, its[i]? = some (Value.int (xs.getD i 0) t) :=
  h.2 i _ (by rw [List.getD_eq_getElem?_getD, List.getElem?_eq_getElem hi]; rfl)
def dotp (ws ss : List Int) : Nat → Int
  | 0 => 0
  | n + 1 => dotp ws ss n + ws.getD n 0 * ss.getD n 0
end Mine

-- part Paid
namespace Mine
set_option maxRecDepth 100000
set_option maxHeartbeats 8000000
local macro_rules | `(tactic| walk_at $s:str) => `(tactic| k_extra $(Lean.Syntax.mkStrLit ("MY@" ++ s.getString)))
theorem words_Paid : True := by
  k_with_none
  k_with "MY@MY tk" => with_reducible (first | assumption | exact Tks.add (by assumption) | exact Tks.add (Tks.add (by assumption)))
  k_with "MY@MY lit" => first | with_reducible rfl | exact lit257 | exact litSpQ | exact litQ | exact litE | exact lit257Q | exact litLies
  k_with "MY@MY len" => first | assumption | (simp only [List.length_append, List.length_cons, List.length_nil, List.length_replicate, rep] at *; omega)
  k_with "MY@MY int" => first | decide | omega
  k_with "MY@subscriptTail Name Slice str ref" => (k_here; (with_reducible show wpAny _ _ (subscriptTail _ _ (Value.str (S _) _) (Value.ref _)) _ _ _); (refine' with_k (by walk_at "MY tk") ?_); k_dflt (first | (refine' sub_from (s := ⟨_, _, _, _, _⟩) (by k_asm) (by k_asm) (by walk_at "MY len") (by walk_at "MY int") _ (by walk_at "MY cut") ?_) | (refine' sub_to (s := ⟨_, _, _, _, _⟩) (by k_asm) (by k_asm) (by walk_at "MY len") (by walk_at "MY int") _ (by walk_at "MY cut") ?_) | (refine' sub_to_neg (s := ⟨_, _, _, _, _⟩) (by k_asm) (by k_asm) (by walk_at "MY len") (by walk_at "MY int") _ (by walk_at "MY cut") ?_) | (refine' sub_all (s := ⟨_, _, _, _, _⟩) (by k_asm) (by k_asm) (by walk_at "MY len") ?_) | (refine' sub_run (s := ⟨_, _, _, _, _⟩) (by k_asm) (by k_asm) (by walk_at "MY len") (by walk_at "MY int") (by walk_at "MY int") (by walk_at "MY len") _ (by walk_at "MY cut") ?_)); intro _ _ _ _ _ hT9_k9; (try dsimp only at hT9_k9); (try dsimp only))
  k_with "MY@subscriptTail Name Name str int" => (k_here; (with_reducible show wpAny _ _ (subscriptTail _ _ (Value.str (S _) _) (Value.int _ _)) _ _ _); k_dflt (refine' sub_item (by walk_at "MY len") (by walk_at "MY len") (by walk_at "MY len") _ (by walk_at "MY item") ?_); (try dsimp only))
  k_with "MY@subscriptTail Name BinOp str int" => (k_here; (with_reducible show wpAny _ _ (subscriptTail _ _ (Value.str (S _) _) (Value.int _ _)) _ _ _); k_dflt (refine' sub_item (by walk_at "MY len") (by walk_at "MY len") (by walk_at "MY len") _ (by walk_at "MY item") ?_); (try dsimp only))
  k_with "MY@compareOp NotEq str str" => (k_here; k_dflt (first | (refine' ne_no' (by walk_at "MY lit") (by walk_at "MY lit") (by first | rfl | walk_at "MY eq") ?_) | (refine' ne_yes' (by walk_at "MY lit") (by walk_at "MY lit") (by first | decide | walk_at "MY ne") ?_)); (try dsimp only))
  k_with "MY@compareOp Eq str str" => (k_here; k_dflt (first | (refine' eq_yes' (by walk_at "MY lit") (by walk_at "MY lit") (by first | rfl | walk_at "MY eq") ?_) | (refine' eq_no' (by walk_at "MY lit") (by walk_at "MY lit") (by first | decide | walk_at "MY ne") ?_)); (try dsimp only))
  k_with "MY@call builtin:len" => (k_here; k_dflt (refine len_S (by walk_at "MY len") ?_); (try dsimp only))
  k_with "MY@binaryOp Add str str" => (k_here; (refine' with_k (by walk_at "MY tk") ?_); k_dflt (refine' add_S' (by walk_at "MY lit") (by walk_at "MY lit") (by walk_at "MY len") ?_); intro t9_k9 k9_k9 hT9_k9; (try dsimp only at hT9_k9); (try dsimp only))
  k_with "MY@MY free" => ((fail_if_success (with_reducible show wpAny _ _ (exec (Stmt.For _ _ _ _ _) _) _ _ _)); (fail_if_success (with_reducible show wpAny _ _ (exec (Stmt.While _ _ _ _) _) _ _ _)); (fail_if_success (with_reducible show FStep _ _ _ _ _ _ _ _ _)); (fail_if_success (with_reducible show wpAny _ _ (pyIter _) _ _ _)); (fail_if_success (with_reducible show WStep _ _ _ _ _ _ _ _)); (fail_if_success (with_reducible show wpAny _ _ (exec (Stmt.Assign _ (Expr.ListComp _ _ _ _) _) _) _ _ _)); (fail_if_success (with_reducible show wpAny _ _ (eval (Expr.ListComp _ _ _ _) _) _ _ _)))
  k_with "MY@MY steps" => repeat' (first | (k_unfold; (try dsimp only)) | (k_end; wrow_close) | (walk_at "MY free"; first | walk1 | (dsimp only; walk1) | (leave1; walk_say "STEP leave1"; try dsimp only)) | fail "no step")
  k_with "MY@MY cut" => with_reducible rfl
  k_with "MY@truthy str" => (k_here; k_dflt (first | (refine truthy_S (by walk_at "MY len") true (by refine decide_eq_true ?_; walk_at "MY full") ?_) | (refine truthy_S (by walk_at "MY len") false (by refine decide_eq_false ?_; refine not_not_intro ?_; walk_at "MY empty") ?_)); (try dsimp only))
  k_with "MY@execs cons" => (k_here; (refine' execs_cons_k (by walk_at "MY tk") ?_); intro tk_q_k9 hT9_k9; (try dsimp only at hT9_k9))
  k_with "MY@execs nil" => (k_here; refine wpAny_execs_nil ?_)
  k_with "MY@execs cons Assign cons" => (k_here; (refine' execs_cons_k (by walk_at "MY tk") ?_); intro tk_q_k9 hT9_k9; (try dsimp only at hT9_k9))
  k_with "MY@MY hd" => ((try dsimp only); first | exact Tks.hd (by assumption) | exact Tks.hd (Tks.add (by assumption)) | exact Tks.hd (Tks.add (Tks.add (by assumption))) | exact Tks.hd (Tks.add (Tks.add (Tks.add (by assumption)))))
  k_with "MY@MY mem" => first | assumption | exact List.Mem.head _ | (refine' List.Mem.tail _ ?_; walk_at "MY mem")
  k_with "MY@MY list" => exact isList_of (by k_asm) (by walk_at "MY mem")
  k_with "MY@MY size" => first | assumption | with_reducible rfl
  k_with "MY@MY fits" => omega
  k_with "MY@MY get" => first | assumption
  k_with "MY@call builtin:len" => (k_here; (with_reducible show wpAny _ _ (call (Value.builtin "len") [Value.ref _]) _ _ _); k_dflt (refine' len_l (by walk_at "MY list") (by walk_at "MY size") (by walk_at "MY fits") ?_); (try dsimp only))
  k_with "MY@subscriptTail Name Name ref int" => (k_here; (with_reducible show wpAny _ _ (subscriptTail _ _ (Value.ref _) (Value.int _ _)) _ _ _); k_dflt (refine' item_l (by walk_at "MY list") (by omega) (by omega) (by walk_at "MY get") ?_); (try dsimp only))
  k_with "MY@call type:range" => (k_here; (with_reducible show wpAny _ _ (call _ [Value.int _ _]) _ _ _); (refine' with_k (by walk_at "MY tk") ?_); k_dflt (refine' range1_rows (by k_asm) (by k_asm) ?_); intro h9_k9 tk9_k9 t9_k9 u9_k9 v9_k9 hR9_k9 F9_k9 N9_k9 K9_k9 hT9_k9; (try dsimp only at hT9_k9 ⊢))
  k_with "MY@MY room" => (first | omega | ktr_room | k_room)
  k_with "MY@MY units" => (first | omega | ktr_units)
  k_with "MY@MY enter" => (refine' code_def ?k1_z8 ?k2_z8 ?k3_z8 ?k4_z8 ?k5_z8 ?kA_z8 ?kF_z8 ?kK_z8 ?k6_z8 ?k7_z8 ?k8_z8 ?k9_z8 ?kB_z8 ?_ ?c2_z8 ?c3_z8 ?c4_z8 ?c5_z8; (case kA_z8 => exact rfl); (case kF_z8 => exact rfl); (case kK_z8 => first | exact rfl | assumption); (case k1_z8 => k_asm); (case k2_z8 => k_asm); (case k3_z8 => k_asm); (case k4_z8 => k_asm); (case k5_z8 => k_asm); (case k6_z8 => k_is); (case k7_z8 => k_is); (case k8_z8 => walk_at "MY room"); (case k9_z8 => exact BindsTo.of_eq rfl); (case c5_z8 => decide); (case kB_z8 => exact locs rfl); (case c2_z8 => exact rfl); (case c3_z8 => exact rfl); (case c4_z8 => exact rfl); k_whole; intro g_q_k9 L_q_k9 h_q_k9 FG_q_k9 F_q_k9 N_q_k9 B_q_k9 X_q_k9 T_q_k9; (try dsimp only); (try k_lift B_q_k9); (try k_fold))
  k_with "MY@call ref" => (k_here; (with_reducible first | show wpAny _ _ (call (Value.ref 81) _) _ _ _ | show wpAny _ _ (call (Value.ref 53) _) _ _ _ | show wpAny _ _ (call (Value.ref 60) _) _ _ _ | show wpAny _ _ (call (Value.ref 67) _) _ _ _ | show wpAny _ _ (call (Value.ref 74) _) _ _ _); refine wpAny_call ?_; k_dflt walk_at "MY enter")
  k_with "MY@binaryOp Mult int int" => (k_here; k_dflt (refine' PyProof.Rows.mul_int ?_ (IntMulOk.of_right (intBits_le_64 (by omega) (by omega)))); (try dsimp only))
  trivial

theorem paid_spec (w : World) (mean : ExcName → Option Value) (mg mb : Str → Option Value) (news : List (Addr × Obj)) (aw as' : Addr) (iw is' : Array Value) (kw ks : Nat) (ws ss : List Int) :
   Clm 3 40 PySem.Challenge.rw_wn0056_01.row.prog w (hd.heap_39 w.params) hd.view_39 (looseW hd.view_39 []) mean mg mb 121 news ((aw, listOf iw kw) ∈ news ∧ (as', listOf is' ks) ∈ news ∧ Ints iw ws ∧ Ints is' ss ∧ ws.length = ss.length ∧ ss.length ≤ 4 ∧ ∀ k, 0 ≤ ss.getD k 0 ∧ ss.getD k 0 ≤ 1000) [Value.ref aw, Value.ref as'] (fun v add => add = [] ∧ ∃ t, v = Value.int (dotp ws ss ss.length) t) := by
  k_fill
  intro dp un gd cn cs a ccd cl outer A₀ base h₀ L m s Q E B F X N T hk
  intro hp hd hu hret
  obtain ⟨hmw, hms, hiw, his, hlen, hle, hbd⟩ := hp
  have hsz := his.1
  refine wpAny_call ?_
  k_dflt cell_enter
  have hB : Tks [s.toks] s.toks := Tks.one s.toks
  walk_at "MY steps"
  rename Fr _ _ _ _ => F1
  rename News _ _ _ _ => N1
  refine For_t (s := ⟨_, _, _, _, _⟩) F1 rfl rfl ?_
  walk_at "MY steps"
  refine loop_range (s := ⟨_, _, _, _, _⟩) (n := ss.length) (fun i m nw tk => HI m "paid" (dotp ws ss i) ∧ m "way" = some (Value.ref aw) ∧ m "starts" = some (Value.ref as') ∧ nw = news ∧ s.toks ≤ tk) rfl (by assumption) (by assumption) (by assumption) (range_l (by omega)) (by rw [rangeSize_nat]; simp) ⟨HI.mk rfl rfl, rfl, rfl, rfl, by walk_at "MY hd"⟩ ?up ?step ?fin
  case up => exact fun _ _ _ _ _ hle h => ⟨h.1, h.2.1, h.2.2.1, h.2.2.2.1, Nat.le_trans h.2.2.2.2 hle⟩
  case fin =>
    intro h' tk m' nw F' N' J'
    obtain ⟨⟨tc, e1⟩, e2, e3, rfl, hs⟩ := J'
    have F3 := fr_of F' [("paid", _)] (List.forall_mem_cons.mpr ⟨e1, fun _ h => nomatch h⟩)
    clear F' F1 N1 e1 e2 e3
    dsimp only [kstB] at F3
    have hB2 : Tks [s.toks] tk := fun a ha => by rw [List.mem_singleton.mp ha]; exact hs
    walk_at "MY steps"
    exact hret _ [] _ _ ⟨rfl, _, rfl⟩ (by assumption) (by assumption) (fun _ h => nomatch h)
  case step =>
    intro i v m₁ nw h₁ tk₁ I oI hi hv J1 hI F2 N2
    obtain ⟨⟨tc, e1⟩, e2, e3, rfl, hs⟩ := J1
    obtain ⟨t, rfl⟩ := hv
    rw [Int.zero_add] at F2
    have F3 := fr_of F2 [("paid", _), ("way", _), ("starts", _), ("k", _)] (List.forall_mem_cons.mpr ⟨e1, List.forall_mem_cons.mpr ⟨e2, List.forall_mem_cons.mpr ⟨e3, List.forall_mem_cons.mpr ⟨rfl, fun _ h => nomatch h⟩⟩⟩⟩)
    clear F2 F1 N1 e1 e2 e3
    dsimp only [kstB] at F3
    have hB2 : Tks [s.toks] tk₁ := fun a ha => by rw [List.mem_singleton.mp ha]; exact hs
    obtain ⟨t1, g1⟩ := hiw.at (i := i) (by omega)
    obtain ⟨t2, g2⟩ := his.at (i := i) (by omega)
    obtain ⟨hb1, hb2⟩ := hbd i
    walk_at "MY steps"
    exact fstep_next (by assumption) (by assumption) hI ⟨HI.mk rfl rfl, rfl, rfl, rfl, by walk_at "MY hd"⟩
end Mine

-- part Ce
namespace Mine
set_option maxRecDepth 100000
set_option maxHeartbeats 4000000
section
variable {prog : Program} {w : World} {A : Around} {E : Value → Shared → Prop} {s : Shared} {env : Env} {h₀ : Heap} {L : Addr} {m m' : Str → Option Value} {x : Str} {v : Value} {pos : Pos} {Q : Value → Shared → Prop} {K : Frag} {p : Program} {loose : List Str} {mean : ExcName → Option Value} {mg mb : Str → Option Value}
theorem ce_local (hn : s.heap.Ns env.locals m) (hm : m x = some v) (h : Q v s) (hk : env.scope.kind = .function := by rfl) (hx : env.kindOf x = some .local := by rfl) (hd : (x == ("__debug__" : Str)) = false := by decide) :
    wpAny (model prog w) A (eval (.Name x pos) env) Q E s := wpAny_Name (wpAny_loadName_local hk hx hn hm h) hd
theorem ce_cell {c : Addr} (hc : env.cells.lookup x = some c) (hv : s.heap.IsCell c (some v)) (h : Q v s) (hk : env.scope.kind = .function := by rfl) (hx : env.kindOf x = some .cell := by rfl) (hd : (x == ("__debug__" : Str)) = false := by decide) :
    wpAny (model prog w) A (eval (.Name x pos) env) Q E s := wpAny_Name (wpAny_loadName_cell hk hx hc hv h) hd
theorem ce_free {c : Addr} (hc : env.cells.lookup x = some c) (hv : s.heap.IsCell c (some v)) (h : Q v s) (hk : env.scope.kind = .function := by rfl) (hx : env.kindOf x = some .free := by rfl) (hd : (x == ("__debug__" : Str)) = false := by decide) (hn : (x == ("__classdict__" : Str)) = false := by decide) :
    wpAny (model prog w) A (eval (.Name x pos) env) Q E s := wpAny_Name (wpAny_loadName_free hk hx hc hv h hn) hd
theorem ce_B (F : Fr h₀ L s.heap m) (X : K.In h₀) (T : TopRead p loose mg mb h₀) (e : nsIn K mainGlobals x = some none) (hv : bootBuiltins x = some v) (hn : x ≠ "__name__") (h : Q v s)
    (hg : env.globals = mainGlobals := by rfl) (hb : env.builtins = builtinsNs := by rfl) (hk : env.scope.kind = .function := by rfl) (hx : env.kindOf x = some .globalImplicit := by rfl) (hd : (x == ("__debug__" : Str)) = false := by decide) :
    wpAny (model prog w) A (eval (.Name x pos) env) Q E s :=
  Name_function_global hk hx (loadGlobal_builtin (env := env) (hg ▸ T.g.keeps F.keep) (mg_none_of X T.g e) (hb ▸ T.b.keeps F.keep) ((T.builtins x hn).trans hv) h) hd
theorem ce_K (F : Fr h₀ L s.heap m) (X : K.In h₀) (T : TopRead p loose mg mb h₀) (e : nsIn K mainGlobals x = some (some v)) (h : Q v s)
    (hg : env.globals = mainGlobals := by rfl) (hk : env.scope.kind = .function := by rfl) (hx : env.kindOf x = some .globalImplicit := by rfl) (hd : (x == ("__debug__" : Str)) = false := by decide) :
    wpAny (model prog w) A (eval (.Name x pos) env) Q E s := Name_function_global hk hx (loadGlobal_global (env := env) (hg ▸ T.g.keeps F.keep) (mg_of X T.g e) h) hd
theorem asg_one {px : Pos} {value : Expr} {Q : Flow → Shared → Prop} (hs : swapsWith value (some (.Name x px)) pos.line env = pure false)
    (h : wpAny (model prog w) A (eval value env) (fun v s₁ => wpAny (model prog w) A (storeName env x v) (fun _ s₂ => Q .next s₂) E s₁) E s) :
    wpAny (model prog w) A (exec (.Assign [.Name x px] value pos) env) Q E s := by
  rw [exec_Assign_Name env _ _ _ _ hs]
  exact wpAny_bind (wpAny_standAt (wpAny_bind (wpAny_mono h (fun v s₁ h₁ => wpAny_bind (wpAny_standAt (wpAny_bind (wpAny_bindName (wpAny_mono h₁ (fun _ s₂ h₂ => wpAny_pure h₂) fun _ _ e => e))))) fun _ _ e => e)))
theorem mul_qt {i : Int} {t u : Tok} {y : Str} (hz : y = S [34]) (h1 : 1 ≤ i) (h2 : i ≤ 1000) (h : ∀ (t' k : Nat), s.toks ≤ k → (@Eq Nat t' t ∨ s.toks ≤ t' ∧ t' < k) → Q (.str (S (rep i.toNat)) t') { s with toks := k }) : wpAny (model prog w) A (binaryOp .Mult (.str y t) (.int i u)) Q E s := by
  subst hz
  have e := mul_q i
  have hlen : (S [34]).length = 1 := S_len _
  refine PySem.P.mul_str ?_ ?_ ?_ ?_
  · rw [Bool.or_eq_false_iff]; exact ⟨decide_eq_false (by omega), decide_eq_false (by omega)⟩
  · intro _ _; rw [hlen]
    have : (1 : Int) ≤ (2 ^ 63 - 1) / i := Int.le_ediv_of_mul_le (by omega) (by omega)
    omega
  · intro _ _; rw [hlen]
    unfold PySem.Builtin.Str.tooLong
    exact decide_eq_false (by rw [sizeLine_eq]; omega)
  · rw [if_neg (by omega : ¬ i < 1)]
    unfold Txt.mul at e
    rw [if_neg (by omega : ¬ i < 1)] at e
    by_cases hi : i = 1
    · subst hi
      exact h t s.toks (Nat.le_refl _) (.inl rfl)
    · have e2 : (i == 1 || (S [34]).length == 0) = false := by
        have : (i == 1) = false := by simpa using hi
        rw [this, S_len]; rfl
      rw [e2] at e ⊢
      simp only [Bool.false_eq_true, if_false] at e ⊢
      rw [e]
      refine ⟨?_, ?_⟩
      · rw [S_len, rep_len, sizeLine_eq]; omega
      · exact h s.toks (s.toks + 1) (Nat.le_succ _) (.inr ⟨Nat.le_refl _, Nat.lt_succ_self _⟩)
theorem comp_new {h1 h : Heap} {D : Addr} {o : Obj} {news : List (Addr × Obj)} (F : Fr h₀ L h1 m) (N : News h₀ L h1 news) (kp : ∀ b o, h1.get? b = some o → h.get? b = some o) (hD : h1.objs.size ≤ D) (e : h.get? D = some o) :
    Fr h₀ L h m ∧ News h₀ L h ((D, o) :: news) ∧ ∀ p ∈ news, p.1 < D := by
  refine ⟨F.keeps kp, fun p hp => ?_, fun p hp => Nat.lt_of_lt_of_le (Heap.lt_size (N p hp).1) hD⟩
  rcases List.mem_cons.mp hp with rfl | hp
  · refine ⟨e, Nat.ne_of_gt (Nat.lt_of_lt_of_le F.ns.lt hD), ?_⟩
    cases hq : h₀.get? D with
    | none => rfl
    | some o' => exact absurd (Nat.lt_of_lt_of_le (Heap.lt_size (F.keep _ _ hq)) hD) (Nat.lt_irrefl _)
  · exact N.grown kp p hp
end
def Off5 (L : Nat) (rest : List (Nat × Obj)) : Prop := ∀ p ∈ rest, p.1 < L ∨ L + 5 < p.1
theorem Off5.of {L : Nat} {rest : List (Nat × Obj)} (h : ∀ p ∈ rest, p.1 < L) : Off5 L rest := fun p hp => .inl (h p hp)
theorem Off5.cons {L D : Nat} {o : Obj} {rest : List (Nat × Obj)} (h : Off5 L rest) (hD : L + 5 < D) : Off5 L ((D, o) :: rest) := fun p hp => by
  rcases List.mem_cons.mp hp with rfl | hp
  · exact .inr hD
  · exact h p hp
theorem Off5.ne {L : Nat} {rest : List (Nat × Obj)} (h : Off5 L rest) {k : Nat} (hk : k ≤ 5) : ∀ p ∈ rest, p.1 ≠ L + k := fun p hp e => by
  have h1 : p.1 < L ∨ L + 5 < p.1 := h p hp
  have h2 : (p.1 : Nat) = L + k := e
  omega
section
variable {L : Nat} {o1 o2 o3 o4 o5 : Obj} {rest : List (Nat × Obj)}
theorem ne_k {i j : Nat} (h : i ≠ j) : L + i ≠ L + j := by omega
theorem upd5_1 (h : Off5 L rest) : UpdF (L + 1 + 1 + 1 + 1 + 1) o1 ((L + 1 + 1 + 1 + 1 + 1, o1) :: (L + 1 + 1 + 1 + 1, o2) :: (L + 1 + 1 + 1, o3) :: (L + 1 + 1, o4) :: (L + 1, o5) :: rest) (fun o => (L + 1 + 1 + 1 + 1 + 1, o) :: (L + 1 + 1 + 1 + 1, o2) :: (L + 1 + 1 + 1, o3) :: (L + 1 + 1, o4) :: (L + 1, o5) :: rest) :=
  .head (List.forall_mem_cons.mpr ⟨@ne_k L 4 5 (by decide), List.forall_mem_cons.mpr ⟨@ne_k L 3 5 (by decide), List.forall_mem_cons.mpr ⟨@ne_k L 2 5 (by decide), List.forall_mem_cons.mpr ⟨@ne_k L 1 5 (by decide), h.ne (k := 5) (by decide)⟩⟩⟩⟩)
theorem upd5_2 (h : Off5 L rest) : UpdF (L + 1 + 1 + 1 + 1) o2 ((L + 1 + 1 + 1 + 1 + 1, o1) :: (L + 1 + 1 + 1 + 1, o2) :: (L + 1 + 1 + 1, o3) :: (L + 1 + 1, o4) :: (L + 1, o5) :: rest) (fun o => (L + 1 + 1 + 1 + 1 + 1, o1) :: (L + 1 + 1 + 1 + 1, o) :: (L + 1 + 1 + 1, o3) :: (L + 1 + 1, o4) :: (L + 1, o5) :: rest) :=
  .tail (@ne_k L 5 4 (by decide)) <| .head (List.forall_mem_cons.mpr ⟨@ne_k L 3 4 (by decide), List.forall_mem_cons.mpr ⟨@ne_k L 2 4 (by decide), List.forall_mem_cons.mpr ⟨@ne_k L 1 4 (by decide), h.ne (k := 4) (by decide)⟩⟩⟩)
theorem upd5_3 (h : Off5 L rest) : UpdF (L + 1 + 1 + 1) o3 ((L + 1 + 1 + 1 + 1 + 1, o1) :: (L + 1 + 1 + 1 + 1, o2) :: (L + 1 + 1 + 1, o3) :: (L + 1 + 1, o4) :: (L + 1, o5) :: rest) (fun o => (L + 1 + 1 + 1 + 1 + 1, o1) :: (L + 1 + 1 + 1 + 1, o2) :: (L + 1 + 1 + 1, o) :: (L + 1 + 1, o4) :: (L + 1, o5) :: rest) :=
  .tail (@ne_k L 5 3 (by decide)) <| .tail (@ne_k L 4 3 (by decide)) <| .head (List.forall_mem_cons.mpr ⟨@ne_k L 2 3 (by decide), List.forall_mem_cons.mpr ⟨@ne_k L 1 3 (by decide), h.ne (k := 3) (by decide)⟩⟩)
theorem upd5_4 (h : Off5 L rest) : UpdF (L + 1 + 1) o4 ((L + 1 + 1 + 1 + 1 + 1, o1) :: (L + 1 + 1 + 1 + 1, o2) :: (L + 1 + 1 + 1, o3) :: (L + 1 + 1, o4) :: (L + 1, o5) :: rest) (fun o => (L + 1 + 1 + 1 + 1 + 1, o1) :: (L + 1 + 1 + 1 + 1, o2) :: (L + 1 + 1 + 1, o3) :: (L + 1 + 1, o) :: (L + 1, o5) :: rest) :=
  .tail (@ne_k L 5 2 (by decide)) <| .tail (@ne_k L 4 2 (by decide)) <| .tail (@ne_k L 3 2 (by decide)) <| .head (List.forall_mem_cons.mpr ⟨@ne_k L 1 2 (by decide), h.ne (k := 2) (by decide)⟩)
theorem upd5_5 (h : Off5 L rest) : UpdF (L + 1) o5 ((L + 1 + 1 + 1 + 1 + 1, o1) :: (L + 1 + 1 + 1 + 1, o2) :: (L + 1 + 1 + 1, o3) :: (L + 1 + 1, o4) :: (L + 1, o5) :: rest) (fun o => (L + 1 + 1 + 1 + 1 + 1, o1) :: (L + 1 + 1 + 1 + 1, o2) :: (L + 1 + 1 + 1, o3) :: (L + 1 + 1, o4) :: (L + 1, o) :: rest) :=
  .tail (@ne_k L 5 1 (by decide)) <| .tail (@ne_k L 4 1 (by decide)) <| .tail (@ne_k L 3 1 (by decide)) <| .tail (@ne_k L 2 1 (by decide)) <| .head (h.ne (k := 1) (by decide))
end
theorem norm5 {h₀ h : Heap} {L : Addr} {e c1 c2 c3 c4 c5 : Addr × Obj} {rest : List (Addr × Obj)} (N : News h₀ L h (e :: c1 :: c2 :: c3 :: c4 :: c5 :: rest)) : News h₀ L h (c1 :: c2 :: c3 :: c4 :: c5 :: e :: rest) := fun p hp => N p (by
  simp only [List.mem_cons] at hp ⊢
  rcases hp with h | h | h | h | h | h | h
  · exact .inr (.inl h)
  · exact .inr (.inr (.inl h))
  · exact .inr (.inr (.inr (.inl h)))
  · exact .inr (.inr (.inr (.inr (.inl h))))
  · exact .inr (.inr (.inr (.inr (.inr (.inl h)))))
  · exact .inl h
  · exact .inr (.inr (.inr (.inr (.inr (.inr h))))))
theorem rows5 {h₀ h1 h : Heap} {L : Addr} {m : Str → Option Value} {c1 c2 c3 c4 c5 : Addr × Obj} {rest rl : List (Addr × Obj)} (F : Fr h₀ L h1 m) (N : News h₀ L h (c1 :: c2 :: c3 :: c4 :: c5 :: rest)) (hr : ∀ p ∈ rl, h1.objs.size ≤ p.1 ∧ h.get? p.1 = some p.2) : News h₀ L h (c1 :: c2 :: c3 :: c4 :: c5 :: (rl ++ rest)) := fun p hp => by
  simp only [List.mem_cons, List.mem_append] at hp
  have go : p ∈ rl → h.get? p.1 = some p.2 ∧ p.1 ≠ L ∧ h₀.get? p.1 = none := fun hq => by
    obtain ⟨a, b⟩ := hr p hq
    refine ⟨b, Nat.ne_of_gt (Nat.lt_of_lt_of_le F.ns.lt a), ?_⟩
    cases q : h₀.get? p.1 with
    | none => rfl
    | some o' => exact absurd (Nat.lt_of_lt_of_le (Heap.lt_size (F.keep _ _ q)) a) (Nat.lt_irrefl _)
  rcases hp with h | h | h | h | h | h | h
  · exact N p (by simp [h])
  · exact N p (by simp [h])
  · exact N p (by simp [h])
  · exact N p (by simp [h])
  · exact N p (by simp [h])
  · exact go h
  · exact N p (by simp [h])
theorem Off5.app {L : Nat} {rl rest : List (Nat × Obj)} (h : Off5 L rest) (hr : ∀ p ∈ rl, L + 5 < p.1) : Off5 L (rl ++ rest) := fun p hp => by
  rcases List.mem_append.mp hp with hp | hp
  · exact .inr (hr p hp)
  · exact h p hp
theorem lt5 {h₀ h : Heap} {L : Nat} {o : Obj} {rest : List (Addr × Obj)} (N : News h₀ L h ((L + 1 + 1 + 1 + 1 + 1, o) :: rest)) : L + 5 < h.objs.size := Heap.lt_size (N _ List.mem_cons_self).1
end Mine

-- part Pure
namespace Mine
/-- what stands at the closure's end -/
structure Closed (ss rs : List Nat) : Prop where
  nodup : rs.Nodup
  pos : ∀ x ∈ rs, 1 ≤ x
  sub : ∀ x ∈ ss, x ∈ rs
  meas : ∀ x ∈ rs, ∀ g, (∀ s ∈ ss, g ∣ s) → g ∣ x
  top : ∀ x ∈ rs, ∃ s ∈ ss, x ≤ s
  diff : ∀ x ∈ rs, ∀ y ∈ rs, x < y → y - x ∈ rs

theorem least : ∀ (l : List Nat), l ≠ [] → ∃ m ∈ l, ∀ x ∈ l, m ≤ x
  | [], h => absurd rfl h
  | [a], _ => ⟨a, by simp, by simp⟩
  | a :: b :: r, _ => by
    obtain ⟨m, h1, h2⟩ := least (b :: r) (by simp)
    by_cases h : a ≤ m
    · exact ⟨a, by simp, fun x hx => by
        rcases List.mem_cons.mp hx with rfl | hx
        · exact Nat.le_refl _
        · exact Nat.le_trans h (h2 x hx)⟩
    · exact ⟨m, List.mem_cons_of_mem _ h1, fun x hx => by
        rcases List.mem_cons.mp hx with rfl | hx
        · omega
        · exact h2 x hx⟩
theorem Closed.mul {ss rs : List Nat} (C : Closed ss rs) {m : Nat} (hm : m ∈ rs) (hmin : ∀ x ∈ rs, m ≤ x) : ∀ n x, x ≤ n → x ∈ rs → m ∣ x := by
  intro n
  induction n with
  | zero => intro x hx hr; have := C.pos x hr; omega
  | succ n ih =>
    intro x hx hr
    have h1 := hmin x hr
    have h2 := C.pos m hm
    by_cases e : m = x
    · subst e; exact Nat.dvd_refl _
    · have h3 := C.diff m hm x hr (by omega)
      have h4 := ih (x - m) (by omega) h3
      have : x = (x - m) + m := by omega
      rw [this]
      exact Nat.dvd_add h4 (Nat.dvd_refl _)
/-- the greatest common measure -/
structure Great (ss : List Nat) (g : Nat) : Prop where
  pos : 1 ≤ g
  dvd : ∀ s ∈ ss, g ∣ s
  great : ∀ d, 1 ≤ d → (∀ s ∈ ss, d ∣ s) → d ≤ g
theorem Closed.least_is {ss rs : List Nat} (C : Closed ss rs) (hne : ss ≠ []) {g : Nat} (G : Great ss g) : g ∈ rs := by
  have hr : rs ≠ [] := by
    intro e
    cases ss with
    | nil => exact hne rfl
    | cons a r => have := C.sub a (by simp); rw [e] at this; cases this
  obtain ⟨m, hm, hmin⟩ := least rs hr
  have h1 : m ≤ g := G.great m (C.pos m hm) fun s hs => C.mul hm hmin s s (Nat.le_refl _) (C.sub s hs)
  have h2 : g ∣ m := C.meas m hm g G.dvd
  have h3 : g ≤ m := Nat.le_of_dvd (C.pos m hm) h2
  have : m = g := by omega
  rw [← this]; exact hm
theorem Closed.down {ss rs : List Nat} (C : Closed ss rs) {g : Nat} (hg1 : 1 ≤ g) (hg : g ∈ rs) (K : Nat) (hK : g * K ∈ rs) : ∀ j k, k + j = K → 1 ≤ k → g * k ∈ rs := by
  intro j
  induction j with
  | zero => intro k h _; rw [← h] at hK; exact hK
  | succ j ih =>
    intro k h hk
    have h1 := ih (k + 1) (by omega) (by omega)
    have h2 : g * (k + 1) - g = g * k := by rw [Nat.mul_add, Nat.mul_one, Nat.add_sub_cancel]
    have h3 : g < g * (k + 1) := by
      have : g * 1 < g * (k + 1) := Nat.mul_lt_mul_of_pos_left (by omega) hg1
      omega
    have := C.diff g hg _ h1 h3
    rw [h2] at this; exact this
theorem Closed.mem_iff {ss rs : List Nat} (C : Closed ss rs) {g M : Nat} (G : Great ss g) (hM : M ∈ ss) (hmax : ∀ s ∈ ss, s ≤ M) (x : Nat) :
    x ∈ rs ↔ ∃ k, 1 ≤ k ∧ x = g * k ∧ x ≤ M := by
  have hne : ss ≠ [] := by intro e; rw [e] at hM; cases hM
  have hg := C.least_is hne G
  constructor
  · intro hx
    obtain ⟨k, hk⟩ := C.meas x hx g G.dvd
    obtain ⟨s, hs, hxs⟩ := C.top x hx
    refine ⟨k, ?_, hk, Nat.le_trans hxs (hmax s hs)⟩
    have := C.pos x hx
    rcases Nat.eq_zero_or_pos k with h | h
    · rw [h, Nat.mul_zero] at hk; omega
    · exact h
  · rintro ⟨k, hk, rfl, hxM⟩
    obtain ⟨K, hK⟩ := G.dvd M hM
    have hMr := C.sub M hM
    rw [hK] at hMr hxM
    have hkK : k ≤ K := Nat.le_of_mul_le_mul_left hxM G.pos
    exact C.down G.pos hg K hMr (K - k) k (by omega) hk

theorem sorted_unique : ∀ (a b : List Int), a.Pairwise (· < ·) → b.Pairwise (· < ·) → (∀ x, x ∈ a ↔ x ∈ b) → a = b
  | [], [], _, _, _ => rfl
  | [], y :: b, _, _, h => by have := (h y).2 (by simp); cases this
  | x :: a, [], _, _, h => by have := (h x).1 (by simp); cases this
  | x :: a, y :: b, ha, hb, h => by
    have ha' := List.pairwise_cons.mp ha
    have hb' := List.pairwise_cons.mp hb
    have hxy : x = y := by
      have h1 := (h x).1 (by simp)
      have h2 := (h y).2 (by simp)
      rcases List.mem_cons.mp h1 with e | h1
      · exact e
      · rcases List.mem_cons.mp h2 with e | h2
        · exact e.symm
        · have := hb'.1 x h1; have := ha'.1 y h2; omega
    subst hxy
    rw [sorted_unique a b ha'.2 hb'.2 fun z => ?_]
    constructor
    · intro hz
      rcases List.mem_cons.mp ((h z).1 (List.mem_cons_of_mem _ hz)) with e | h1
      · have := ha'.1 z hz; omega
      · exact h1
    · intro hz
      rcases List.mem_cons.mp ((h z).2 (List.mem_cons_of_mem _ hz)) with e | h1
      · have := hb'.1 z hz; omega
      · exact h1
theorem strict_of {l : List Int} (h1 : l.Pairwise (· ≤ ·)) (h2 : l.Nodup) : l.Pairwise (· < ·) := by
  induction l with
  | nil => exact .nil
  | cons a r ih =>
    have a1 := List.pairwise_cons.mp h1
    have a2 := List.nodup_cons.mp h2
    refine List.pairwise_cons.mpr ⟨fun x hx => ?_, ih a1.2 a2.2⟩
    have := a1.1 x hx
    have : a ≠ x := fun e => a2.1 (e ▸ hx)
    omega
theorem rangeInts_strict {a c : Int} (hc : 0 < c) : ∀ n, (rangeInts a c n).Pairwise (· < ·) := by
  intro n
  unfold rangeInts
  rw [List.pairwise_map]
  refine List.Pairwise.imp (fun {x y} h => ?_) List.pairwise_lt_range
  have : (x : Int) < (y : Int) := by omega
  have := Int.mul_lt_mul_of_pos_right this hc
  omega
theorem Closed.sorted {ss rs : List Nat} (C : Closed ss rs) {g M : Nat} (G : Great ss g) (hM : M ∈ ss) (hmax : ∀ s ∈ ss, s ≤ M) {ns : List Int} (hp : ns.Perm (rs.map fun x : Nat => (x : Int))) (hs : ns.Pairwise (· ≤ ·)) :
    ns = rangeInts g g (M / g) := by
  have hnd : (rs.map fun x : Nat => (x : Int)).Nodup := by
    rw [List.nodup_iff_pairwise_ne, List.pairwise_map]
    exact List.Pairwise.imp (fun h => by omega) C.nodup
  have hgp := G.pos
  refine sorted_unique _ _ (strict_of hs ((hp.nodup_iff).mpr hnd)) (rangeInts_strict (by omega) _) fun x => ?_
  rw [hp.mem_iff]
  constructor
  · intro hx
    obtain ⟨y, hy, rfl⟩ := List.mem_map.mp hx
    obtain ⟨k, hk, rfl, hle⟩ := (C.mem_iff G hM hmax y).mp hy
    unfold rangeInts
    refine List.mem_map.mpr ⟨k - 1, ?_, ?_⟩
    · rw [List.mem_range]
      have : k ≤ M / g := (Nat.le_div_iff_mul_le hgp).mpr (by rw [Nat.mul_comm]; exact hle)
      omega
    · obtain ⟨j, rfl⟩ : ∃ j, k = j + 1 := ⟨k - 1, by omega⟩
      simp only [Nat.add_sub_cancel, Nat.mul_add, Nat.mul_one]
      push_cast
      rw [Int.mul_comm (j : Int) (g : Int), Int.add_comm]
  · intro hx
    obtain ⟨j, hj, rfl⟩ := List.mem_map.mp hx
    rw [List.mem_range] at hj
    refine List.mem_map.mpr ⟨g * (j + 1), (C.mem_iff G hM hmax _).mpr ⟨j + 1, by omega, rfl, ?_⟩, ?_⟩
    · have : j + 1 ≤ M / g := hj
      rw [Nat.mul_comm]
      exact (Nat.le_div_iff_mul_le hgp).mp this
    · simp only [Nat.mul_add, Nat.mul_one]
      push_cast
      rw [Int.mul_comm (j : Int) (g : Int), Int.add_comm]
theorem rangeSize_g {g M : Nat} (hg : 1 ≤ g) (hM : g ≤ M) : Builtin.Range.rangeSize (g : Int) ((M : Int) + 1) (g : Int) = ((M / g : Nat) : Int) := by
  unfold Builtin.Range.rangeSize
  rw [if_pos (by omega), if_pos (by omega)]
  have e : (M : Int) + 1 - (g : Int) - 1 = ((M - g : Nat) : Int) := by omega
  rw [e, ← Int.natCast_ediv]
  have : M / g = (M - g) / g + 1 := by
    have h : M = (M - g) + g := by omega
    rw [h, Nat.add_div_right _ (by omega)]
    simp
  rw [this]; simp
end Mine

-- part Pure2
namespace Mine
structure CInv (ss : List Int) (rs : List Nat) (ws : List (List Int)) (q : List (Nat × Nat)) (taken : Nat) : Prop where
  nodup : rs.Nodup
  rng : ∀ x ∈ rs, 1 ≤ x ∧ x ≤ 18
  top : ∀ x ∈ rs, ∃ s ∈ ss, x ≤ s.toNat
  meas : ∀ x ∈ rs, ∀ g : Nat, (∀ s ∈ ss, g ∣ s.toNat) → g ∣ x
  sub : ∀ s ∈ ss, s.toNat ∈ rs
  wlen : ws.length = rs.length
  row : ∀ i r, ws[i]? = some r → r.length = ss.length ∧ dotp r ss ss.length = ((rs.getD i 0 : Nat) : Int)
  qok : ∀ p ∈ q, p.1 < rs.length ∧ p.2 < rs.length ∧ p.1 ≠ p.2
  cov : ∀ i j, i < j → j < rs.length → (i, j) ∈ q ∨ max (rs.getD i 0) (rs.getD j 0) - min (rs.getD i 0) (rs.getD j 0) ∈ rs
  cnt : 2 * (q.length + taken) = rs.length * (rs.length - 1)

theorem pigeon : ∀ (n : Nat) (l : List Nat), l.Nodup → (∀ x ∈ l, 1 ≤ x ∧ x ≤ n) → l.length ≤ n := by
  intro n
  induction n with
  | zero =>
    intro l _ hb
    cases l with
    | nil => simp
    | cons a r => have := hb a (by simp); omega
  | succ n ih =>
    intro l hl hb
    by_cases hm : n + 1 ∈ l
    · have h1 := ih (l.erase (n + 1)) (hl.erase _) fun x hx => by
        have hx' := (hl.mem_erase_iff).mp hx
        have := hb x hx'.2
        have := hx'.1
        omega
      rw [List.length_erase_of_mem hm] at h1
      omega
    · have h1 := ih l hl fun x hx => by
        have := hb x hx
        have : x ≠ n + 1 := fun e => hm (e ▸ hx)
        omega
      omega
theorem CInv.len {ss : List Int} {rs : List Nat} {ws : List (List Int)} {q : List (Nat × Nat)} {taken : Nat} (C : CInv ss rs ws q taken) : rs.length ≤ 18 := pigeon 18 rs C.nodup C.rng
theorem CInv.sz {ss : List Int} {rs : List Nat} {ws : List (List Int)} {q : List (Nat × Nat)} {taken : Nat} (C : CInv ss rs ws q taken) : q.length + taken ≤ 153 := by
  have h1 := C.cnt
  have h2 := C.len
  have h3 : rs.length * (rs.length - 1) ≤ 18 * 17 := Nat.mul_le_mul h2 (by omega)
  omega
theorem getD_mem' {l : List Nat} {i : Nat} (h : i < l.length) : l.getD i 0 ∈ l := by
  rw [List.getD_eq_getElem?_getD, List.getElem?_eq_getElem h]; exact List.getElem_mem h
theorem nodup_inj {α : Type} : ∀ {l : List α}, l.Nodup → ∀ {i j : Nat} {x : α}, l[i]? = some x → l[j]? = some x → i = j
  | [], _, i, j, x, h, _ => by simp at h
  | a :: r, hn, 0, 0, x, _, _ => rfl
  | a :: r, hn, 0, j + 1, x, h1, h2 => by
    have e : a = x := by simpa using h1
    have h2' : r[j]? = some x := by simpa using h2
    exact absurd (List.mem_of_getElem? h2') (e ▸ (List.nodup_cons.mp hn).1)
  | a :: r, hn, i + 1, 0, x, h1, h2 => by
    have e : a = x := by simpa using h2
    have h1' : r[i]? = some x := by simpa using h1
    exact absurd (List.mem_of_getElem? h1') (e ▸ (List.nodup_cons.mp hn).1)
  | a :: r, hn, i + 1, j + 1, x, h1, h2 => by
    have h1' : r[i]? = some x := by simpa using h1
    have h2' : r[j]? = some x := by simpa using h2
    rw [nodup_inj (List.nodup_cons.mp hn).2 h1' h2']
theorem CInv.ne {ss : List Int} {rs : List Nat} {ws : List (List Int)} {q : List (Nat × Nat)} {taken : Nat} (C : CInv ss rs ws q taken) {i j : Nat} (hi : i < rs.length) (hj : j < rs.length) (h : i ≠ j) : rs.getD i 0 ≠ rs.getD j 0 := by
  rw [List.getD_eq_getElem?_getD, List.getD_eq_getElem?_getD, List.getElem?_eq_getElem hi, List.getElem?_eq_getElem hj]
  intro e
  have e : rs[i] = rs[j] := e
  exact h (nodup_inj C.nodup (List.getElem?_eq_getElem hi) (by rw [e]; exact List.getElem?_eq_getElem hj))
theorem mem_cut {α : Type} {q : List α} {n : Nat} {x y : α} (hy : q[n]? = some y) (hx : x ∈ q) : x = y ∨ x ∈ q.take n ++ q.drop (n + 1) := by
  have hn : n < q.length := (List.getElem?_eq_some_iff.mp hy).1
  have e : q = q.take n ++ (y :: q.drop (n + 1)) := by
    have h1 : q.drop n = y :: q.drop (n + 1) := by
      rw [List.drop_eq_getElem_cons hn]
      rw [(List.getElem?_eq_some_iff.mp hy).2]
    rw [← h1, List.take_append_drop]
  rw [e] at hx
  rcases List.mem_append.mp hx with h | h
  · exact .inr (List.mem_append.mpr (.inl h))
  · rcases List.mem_cons.mp h with h | h
    · exact .inl h
    · exact .inr (List.mem_append.mpr (.inr h))
theorem cut_sub {α : Type} {q : List α} {n : Nat} {x : α} (hx : x ∈ q.take n ++ q.drop (n + 1)) : x ∈ q := by
  rcases List.mem_append.mp hx with h | h
  · exact List.mem_of_mem_take h
  · exact List.mem_of_mem_drop h
theorem cut_len {α : Type} {q : List α} {n : Nat} (h : n < q.length) : (q.take n ++ q.drop (n + 1)).length + 1 = q.length := by
  rw [List.length_append, List.length_take, List.length_drop]; omega
theorem CInv.stay {ss : List Int} {rs : List Nat} {ws : List (List Int)} {q : List (Nat × Nat)} {taken : Nat} (C : CInv ss rs ws q taken) {n a b : Nat} (hq : q[n]? = some (a, b))
    (hd : max (rs.getD a 0) (rs.getD b 0) - min (rs.getD a 0) (rs.getD b 0) ∈ rs) : CInv ss rs ws (q.take n ++ q.drop (n + 1)) (taken + 1) := by
  have hn : n < q.length := (List.getElem?_eq_some_iff.mp hq).1
  have hl := cut_len hn
  refine { C with qok := fun p hp => C.qok p (cut_sub hp), cov := fun i j hij hj => ?_, cnt := ?_ }
  · rcases C.cov i j hij hj with h | h
    · rcases mem_cut hq h with e | h
      · cases e; exact .inr hd
      · exact .inl h
    · exact .inr h
  · have := C.cnt; omega
def rowsub (x y : List Int) (n : Nat) : List Int := (List.range n).map fun k => x.getD k 0 - y.getD k 0
theorem rowsub_len (x y : List Int) (n : Nat) : (rowsub x y n).length = n := by simp [rowsub]
theorem rowsub_get {x y : List Int} {n k : Nat} (h : k < n) : (rowsub x y n)[k]? = some (x.getD k 0 - y.getD k 0) := by simp [rowsub, h]
theorem rowsub_getD {x y : List Int} {n k : Nat} (h : k < n) : (rowsub x y n).getD k 0 = x.getD k 0 - y.getD k 0 := by rw [List.getD_eq_getElem?_getD, rowsub_get h]; rfl
theorem dotp_sub (x y ss : List Int) (n : Nat) : ∀ k, k ≤ n → dotp (rowsub x y n) ss k = dotp x ss k - dotp y ss k
  | 0, _ => by simp [dotp]
  | k + 1, h => by
    rw [dotp, dotp, dotp, dotp_sub x y ss n k (by omega), rowsub_getD (by omega), Int.sub_mul]
    omega
/-- the new run's row: the longer run's less the shorter one's -/
def newRow (ss : List Int) (rs : List Nat) (ws : List (List Int)) (a b : Nat) : List Int :=
  if rs.getD a 0 > rs.getD b 0 then rowsub (ws.getD a []) (ws.getD b []) ss.length else rowsub (ws.getD b []) (ws.getD a []) ss.length
theorem cnt_step {Q L T K : Nat} (hl : L + 1 = Q) (h5 : 2 * (Q + T) = K * (K - 1)) : 2 * (L + K + (T + 1)) = (K + 1) * K := by
  subst hl
  cases K with
  | zero => omega
  | succ k =>
    rw [Nat.add_sub_cancel] at h5
    rw [Nat.add_mul (k + 1), Nat.one_mul, Nat.mul_add (k + 1) k 1, Nat.mul_one, ← h5]
    omega
theorem mm_bd {x y : Nat} (h1 : 1 ≤ x ∧ x ≤ 18) (h2 : 1 ≤ y ∧ y ≤ 18) (hne : x ≠ y) : 1 ≤ max x y - min x y ∧ max x y - min x y ≤ 18 := by omega
theorem mm_le {x y : Nat} (h : x ≤ y) : max x y - min x y = y - x := by rw [Nat.max_eq_right h, Nat.min_eq_left h]
theorem mm_ge {x y : Nat} (h : y ≤ x) : max x y - min x y = x - y := by rw [Nat.max_eq_left h, Nat.min_eq_right h]
theorem CInv.grow {ss : List Int} {rs : List Nat} {ws : List (List Int)} {q : List (Nat × Nat)} {taken : Nat} (C : CInv ss rs ws q taken) {n a b : Nat} (hq : q[n]? = some (a, b))
    (hd : max (rs.getD a 0) (rs.getD b 0) - min (rs.getD a 0) (rs.getD b 0) ∉ rs) :
    CInv ss (rs ++ [max (rs.getD a 0) (rs.getD b 0) - min (rs.getD a 0) (rs.getD b 0)]) (ws ++ [newRow ss rs ws a b]) ((q.take n ++ q.drop (n + 1)) ++ (List.range rs.length).map fun k => (k, rs.length)) (taken + 1) := by
  have hn : n < q.length := (List.getElem?_eq_some_iff.mp hq).1
  have hl := cut_len hn
  obtain ⟨ha, hb, hab⟩ := C.qok _ (List.mem_of_getElem? hq)
  dsimp only at ha hb hab
  have hne := C.ne ha hb hab
  have hma := getD_mem' ha
  have hmb := getD_mem' hb
  have h1 := C.rng _ hma
  have h2 := C.rng _ hmb
  generalize hx : rs.getD a 0 = x at *
  generalize hy : rs.getD b 0 = y at *
  generalize hz : max x y - min x y = z at *
  have hz1 : 1 ≤ z ∧ z ≤ 18 := hz ▸ mm_bd h1 h2 hne
  have hzl : x ≤ y → z = y - x := fun h => hz.symm.trans (mm_le h)
  have hzg : y ≤ x → z = x - y := fun h => hz.symm.trans (mm_ge h)
  have hzE : id (max x y - min x y = z) := hz
  clear hz h1 h2 hn
  have hwa : ws[a]? = some (ws.getD a []) := by rw [List.getD_eq_getElem?_getD, List.getElem?_eq_getElem (by rw [C.wlen]; exact ha)]; rfl
  have hwb : ws[b]? = some (ws.getD b []) := by rw [List.getD_eq_getElem?_getD, List.getElem?_eq_getElem (by rw [C.wlen]; exact hb)]; rfl
  have keepD : ∀ i, i < rs.length → (rs ++ [z]).getD i 0 = rs.getD i 0 := fun i hi => by
    rw [List.getD_eq_getElem?_getD, List.getD_eq_getElem?_getD, List.getElem?_append_left hi]
  refine ⟨?_, ?_, ?_, ?_, ?_, ?_, ?_, ?_, ?_, ?_⟩
  · rw [List.nodup_append]
    refine ⟨C.nodup, by simp, fun u hu v hv => ?_⟩
    rw [List.mem_singleton.mp hv]
    rintro rfl; exact hd hu
  · intro u hu
    rcases List.mem_append.mp hu with hu | hu
    · exact C.rng u hu
    · rw [List.mem_singleton.mp hu]; exact hz1
  · intro u hu
    rcases List.mem_append.mp hu with hu | hu
    · exact C.top u hu
    · rw [List.mem_singleton.mp hu]
      obtain ⟨s1, k1, k2⟩ := C.top _ hma
      obtain ⟨s2, k3, k4⟩ := C.top _ hmb
      rcases Nat.le_total x y with hxy | hxy
      · exact ⟨s2, k3, by rw [hzl hxy]; exact Nat.le_trans (Nat.sub_le _ _) k4⟩
      · exact ⟨s1, k1, by rw [hzg hxy]; exact Nat.le_trans (Nat.sub_le _ _) k2⟩
  · intro u hu g hg
    rcases List.mem_append.mp hu with hu | hu
    · exact C.meas u hu g hg
    · rw [List.mem_singleton.mp hu]
      have d1 := C.meas _ hma g hg
      have d2 := C.meas _ hmb g hg
      rcases Nat.le_total x y with hxy | hxy
      · rw [hzl hxy]; exact Nat.dvd_sub d2 d1
      · rw [hzg hxy]; exact Nat.dvd_sub d1 d2
  · intro s hs; exact List.mem_append.mpr (.inl (C.sub s hs))
  · rw [List.length_append, List.length_append, C.wlen]; rfl
  · intro i r hi
    by_cases hil : i < ws.length
    · rw [List.getElem?_append_left hil] at hi
      rw [keepD i (by rw [← C.wlen]; exact hil)]
      exact C.row i r hi
    · rw [List.getElem?_append_right (Nat.le_of_not_lt hil)] at hi
      have hi0 : i - ws.length = 0 := Nat.lt_one_iff.mp (List.getElem?_eq_some_iff.mp hi).1
      rw [hi0] at hi
      cases hi
      have : i = rs.length := by rw [← C.wlen]; exact Nat.le_antisymm (Nat.sub_eq_zero_iff_le.mp hi0) (Nat.le_of_not_lt hil)
      subst this
      have e : (rs ++ [z]).getD rs.length 0 = z := by rw [List.getD_eq_getElem?_getD, List.getElem?_append_right (Nat.le_refl _)]; simp
      rw [e]
      have ra := C.row a _ hwa
      have rb := C.row b _ hwb
      rw [hx] at ra
      rw [hy] at rb
      unfold newRow
      rw [hx, hy]
      by_cases hxy : x > y
      · rw [if_pos hxy]
        refine ⟨rowsub_len _ _ _, ?_⟩
        rw [dotp_sub _ _ _ _ _ (Nat.le_refl _), ra.2, rb.2, hzg (Nat.le_of_lt hxy)]; exact (Int.ofNat_sub (Nat.le_of_lt hxy)).symm
      · rw [if_neg hxy]
        refine ⟨rowsub_len _ _ _, ?_⟩
        rw [dotp_sub _ _ _ _ _ (Nat.le_refl _), ra.2, rb.2, hzl (Nat.le_of_not_lt hxy)]; exact (Int.ofNat_sub (Nat.le_of_not_lt hxy)).symm
  · intro p hp
    rw [List.length_append, List.length_singleton]
    rcases List.mem_append.mp hp with hp | hp
    · obtain ⟨c1, c2, c3⟩ := C.qok p (cut_sub hp)
      exact ⟨Nat.lt_succ_of_lt c1, Nat.lt_succ_of_lt c2, c3⟩
    · obtain ⟨k, hk, rfl⟩ := List.mem_map.mp hp
      rw [List.mem_range] at hk
      exact ⟨Nat.lt_succ_of_lt hk, Nat.lt_succ_self _, Nat.ne_of_lt hk⟩
  · intro i j hij hj
    rw [List.length_append, List.length_singleton] at hj
    by_cases hjl : j < rs.length
    · rw [keepD i (Nat.lt_trans hij hjl), keepD j hjl]
      rcases C.cov i j hij hjl with h | h
      · rcases mem_cut hq h with e | h
        · cases e
          rw [hx, hy, show max x y - min x y = z from hzE]; exact .inr (by simp)
        · exact .inl (List.mem_append.mpr (.inl h))
      · exact .inr (List.mem_append.mpr (.inl h))
    · have : j = rs.length := Nat.le_antisymm (Nat.le_of_lt_succ hj) (Nat.le_of_not_lt hjl)
      subst this
      exact .inl (List.mem_append.mpr (.inr (List.mem_map.mpr ⟨i, List.mem_range.mpr hij, rfl⟩)))
  · have h5 := C.cnt
    rw [List.length_append (as := q.take n ++ q.drop (n + 1)), List.length_append (as := rs), List.length_singleton, List.length_map, List.length_range, Nat.add_sub_cancel]
    exact cnt_step hl h5
theorem CInv.closed {ss : List Int} {rs : List Nat} {ws : List (List Int)} {taken : Nat} (C : CInv ss rs ws [] taken) : Closed (ss.map Int.toNat) rs := by
  refine ⟨C.nodup, fun x hx => (C.rng x hx).1, ?_, ?_, ?_, ?_⟩
  · intro x hx
    obtain ⟨s, hs, rfl⟩ := List.mem_map.mp hx
    exact C.sub s hs
  · intro x hx g hg
    exact C.meas x hx g fun s hs => hg _ (List.mem_map.mpr ⟨s, hs, rfl⟩)
  · intro x hx
    obtain ⟨s, hs, h⟩ := C.top x hx
    exact ⟨_, List.mem_map.mpr ⟨s, hs, rfl⟩, h⟩
  · intro x hx y hy hxy
    obtain ⟨i, hi, rfl⟩ := List.getElem_of_mem hx
    obtain ⟨j, hj, rfl⟩ := List.getElem_of_mem hy
    have ei : rs.getD i 0 = rs[i] := by rw [List.getD_eq_getElem?_getD, List.getElem?_eq_getElem hi]; rfl
    have ej : rs.getD j 0 = rs[j] := by rw [List.getD_eq_getElem?_getD, List.getElem?_eq_getElem hj]; rfl
    rcases Nat.lt_trichotomy i j with h | h | h
    · rcases C.cov i j h hj with h | h
      · cases h
      · rw [ei, ej] at h
        rwa [Nat.max_eq_right (by omega), Nat.min_eq_left (by omega)] at h
    · subst h; omega
    · rcases C.cov j i h hi with h | h
      · cases h
      · rw [ei, ej] at h
        rwa [Nat.max_eq_left (by omega), Nat.min_eq_right (by omega)] at h
end Mine

-- part Pure3
namespace Mine
theorem last_max : ∀ (l : List Int), l.Pairwise (· < ·) → ∀ x, l.getLast? = some x → ∀ y ∈ l, y ≤ x
  | [], _, x, h, y, hy => nomatch hy
  | [a], _, x, h, y, hy => by
    have e : a = x := by simpa using h
    rw [List.mem_singleton.mp hy, e]; exact Int.le_refl _
  | a :: b :: r, hp, x, h, y, hy => by
    have hp' := List.pairwise_cons.mp hp
    have h' : (b :: r).getLast? = some x := by simpa using h
    have ih := last_max (b :: r) hp'.2 x h'
    rcases List.mem_cons.mp hy with rfl | hy
    · exact Int.le_trans (Int.le_of_lt (hp'.1 b (by simp))) (ih b (by simp))
    · exact ih y hy
/-- the divisors that all share -/
def shareds (st : List Int) (mm : Nat) : List Int := ((List.range mm).map fun i : Nat => (1 : Int) + (i : Int)).filter fun d => st.all fun n => n % d == 0
theorem mem_shareds {st : List Int} {mm : Nat} {d : Int} : d ∈ shareds st mm ↔ (1 ≤ d ∧ d ≤ mm) ∧ ∀ n ∈ st, n % d = 0 := by
  unfold shareds
  rw [List.mem_filter, List.mem_map, List.all_eq_true]
  constructor
  · rintro ⟨⟨i, hi, rfl⟩, h⟩
    rw [List.mem_range] at hi
    exact ⟨by omega, fun n hn => by simpa using h n hn⟩
  · rintro ⟨h1, h2⟩
    refine ⟨⟨(d - 1).toNat, List.mem_range.mpr (by omega), by omega⟩, fun n hn => by simpa using h2 n hn⟩
theorem shareds_sorted (st : List Int) (mm : Nat) : (shareds st mm).Pairwise (· < ·) := by
  unfold shareds
  refine List.Pairwise.filter _ ?_
  rw [List.pairwise_map]
  exact List.Pairwise.imp (fun h => by omega) List.pairwise_lt_range
theorem great_last {st : List Int} {mm : Nat} (hb : ∀ z ∈ st, 1 ≤ z) (hm : (mm : Int) ∈ st) : ∃ g : Nat, (shareds st mm).getLast? = some (g : Int) ∧ Great (st.map Int.toNat) g := by
  have h1 : (1 : Int) ∈ shareds st mm := mem_shareds.mpr ⟨⟨Int.le_refl _, hb _ hm⟩, fun n _ => Int.emod_one n⟩
  have hne : shareds st mm ≠ [] := fun e => by rw [e] at h1; cases h1
  have hl := List.getLast?_eq_some_getLast hne
  have hmem := List.getLast_mem hne
  generalize (shareds st mm).getLast hne = g at hl hmem
  obtain ⟨⟨a, b⟩, c⟩ := mem_shareds.mp hmem
  refine ⟨g.toNat, by rw [hl]; congr 1; omega, by omega, fun s hs => ?_, fun d hd hall => ?_⟩
  · obtain ⟨z, hz, rfl⟩ := List.mem_map.mp hs
    have h3 := Int.dvd_of_emod_eq_zero (c z hz)
    have h4 := hb z hz
    have : ((g.toNat : Nat) : Int) ∣ ((z.toNat : Nat) : Int) := by
      rw [Int.toNat_of_nonneg (by omega), Int.toNat_of_nonneg (by omega)]; exact h3
    exact Int.ofNat_dvd.mp this
  · have h5 : (d : Int) ∈ shareds st mm := by
      refine mem_shareds.mpr ⟨⟨by omega, ?_⟩, fun n hn => ?_⟩
      · have h6 := Nat.le_of_dvd (by have := hb _ hm; omega) (hall _ (List.mem_map.mpr ⟨_, hm, rfl⟩))
        omega
      · have h7 := Int.ofNat_dvd.mpr (hall _ (List.mem_map.mpr ⟨n, hn, rfl⟩))
        rw [Int.toNat_of_nonneg (by have := hb n hn; omega)] at h7
        exact Int.emod_eq_zero_of_dvd h7
    have := last_max _ (shareds_sorted st mm) g hl _ h5
    omega
end Mine

-- part Loop
namespace Mine
set_option maxRecDepth 100000
set_option maxHeartbeats 8000000
/-- the runs' list: sizes and tokens -/
def RunL (l : List (Nat × Nat)) (tk : Nat) : Prop := ∀ p ∈ l, p.2 ≠ 0 ∧ p.2 < tk
def RunJ (ss : List Int) (i : Nat) (ys : List Value) (tk : Nat) : Prop := ∃ l : List (Nat × Nat), ys.toArray = runArr l ∧ l.map (·.1) = (ss.take i).map Int.toNat ∧ RunL l tk
theorem RunJ.up {ss : List Int} {i : Nat} {ys : List Value} {tk tk' : Nat} (h : RunJ ss i ys tk) (hle : tk ≤ tk') : RunJ ss i ys tk' := by
  obtain ⟨l, a, b, c⟩ := h
  exact ⟨l, a, b, fun p hp => ⟨(c p hp).1, Nat.lt_of_lt_of_le (c p hp).2 hle⟩⟩
theorem RunJ.snoc {ss : List Int} {i : Nat} {ys : List Value} {tk tk' : Nat} (h : RunJ ss i ys tk) (hle : tk ≤ tk') {z : Int} (hz : ss[i]? = some z) {t : Nat} (h0 : t ≠ 0) (h1 : t < tk') : RunJ ss (i + 1) (ys ++ [Value.str (S (rep z.toNat)) t]) tk' := by
  obtain ⟨l, a, b, c⟩ := h.up hle
  refine ⟨l ++ [(z.toNat, t)], ?_, ?_, ?_⟩
  · have : ys = (runArr l).toList := by rw [← a]
    rw [this]; simp [runArr]
  · rw [List.map_append, b, List.take_add_one, hz]; simp
  · intro p hp
    rcases List.mem_append.mp hp with hp | hp
    · exact c p hp
    · rw [List.mem_singleton.mp hp]; exact ⟨h0, h1⟩

def unit (n k : Nat) : List Int := (List.range n).map fun j => if k = j then 1 else 0
def IntsL (its : List Value) (xs : List Int) : Prop := its.length = xs.length ∧ ∀ (i : Nat) (x : Int), xs[i]? = some x → ∃ t : Nat, its[i]? = some (Value.int x t)
theorem IntsL.ints {its : List Value} {xs : List Int} (h : IntsL its xs) : Ints its.toArray xs := ⟨by simpa using h.1, fun i x hx => by obtain ⟨t, e⟩ := h.2 i x hx; exact ⟨t, by simpa using e⟩⟩
theorem IntsL.snoc {its : List Value} {xs : List Int} {i : Nat} {z : Int} {t : Nat} (h : IntsL its (xs.take i)) (hz : xs[i]? = some z) : IntsL (its ++ [Value.int z t]) (xs.take (i + 1)) := by
  have hi : i < xs.length := (List.getElem?_eq_some_iff.mp hz).1
  have hl : its.length = i := by rw [h.1, List.length_take]; omega
  have e : xs.take (i + 1) = xs.take i ++ [z] := by rw [List.take_add_one, hz]; rfl
  refine ⟨by rw [e, List.length_append, List.length_append, h.1]; rfl, fun k x hx => ?_⟩
  rw [e] at hx
  by_cases hk : k < i
  · rw [List.getElem?_append_left (by rw [List.length_take]; omega)] at hx
    obtain ⟨t', e'⟩ := h.2 k x hx
    exact ⟨t', by rw [List.getElem?_append_left (by omega)]; exact e'⟩
  · have hlen : (xs.take i).length = i := by rw [List.length_take]; omega
    rw [List.getElem?_append_right (by omega), hlen] at hx
    have hk0 : k - i = 0 := by
      have := (List.getElem?_eq_some_iff.mp hx).1
      simp at this; omega
    rw [hk0] at hx
    cases hx
    exact ⟨t, by rw [List.getElem?_append_right (by omega), hl, hk0]; rfl⟩
theorem unit_len (n k : Nat) : (unit n k).length = n := by simp [unit]
theorem unit_get {n k j : Nat} (h : j < n) : (unit n k)[j]? = some (if k = j then 1 else 0) := by simp [unit, h]
def RowJ (n u i : Nat) (ys : List Value) (h : Heap) : Prop := ∃ rl : List (Addr × Obj), ys = rl.map (fun p => Value.ref p.1) ∧ rl.length = i ∧ (∀ p ∈ rl, u < p.1 ∧ h.get? p.1 = some p.2) ∧ ∀ (k : Nat) (p : Addr × Obj), rl[k]? = some p → ∃ its kk, p.2 = listOf its kk ∧ Ints its (unit n k)
theorem RowJ.nil {n u : Nat} {h : Heap} : RowJ n u 0 [] h := ⟨[], rfl, rfl, by simp, by simp⟩
theorem IntsL.nil {xs : List Int} : IntsL [] (xs.take 0) := ⟨rfl, by simp⟩
theorem IntsL.full {zs : List Value} {n k : Nat} (h : IntsL zs ((unit n k).take n)) : IntsL zs (unit n k) := by rwa [List.take_of_length_le (by rw [unit_len]; exact Nat.le_refl _)] at h
theorem RowJ.keeps {n u i : Nat} {ys : List Value} {h h' : Heap} (r : RowJ n u i ys h) (k : ∀ (b : Addr) o, u < b → h.get? b = some o → h'.get? b = some o) : RowJ n u i ys h' := by
  obtain ⟨rl, a, b, c, d⟩ := r
  exact ⟨rl, a, b, fun p hp => ⟨(c p hp).1, k _ _ (c p hp).1 (c p hp).2⟩, d⟩
theorem RowJ.snoc {n u i : Nat} {ys : List Value} {h : Heap} (r : RowJ n u i ys h) {D : Addr} {zs : List Value} {kk : Nat} (hD : u < D) (e : h.get? D = some (listOf zs.toArray kk)) (hz : IntsL zs (unit n i)) : RowJ n u (i + 1) (ys ++ [Value.ref D]) h := by
  obtain ⟨rl, a, b, c, d⟩ := r
  refine ⟨rl ++ [(D, listOf zs.toArray kk)], by rw [a]; simp, by simp [b], fun p hp => ?_, fun k p hp => ?_⟩
  · rcases List.mem_append.mp hp with hp | hp
    · exact c p hp
    · rw [List.mem_singleton.mp hp]; exact ⟨hD, e⟩
  · by_cases hk : k < i
    · rw [List.getElem?_append_left (by omega)] at hp; exact d k p hp
    · rw [List.getElem?_append_right (by omega)] at hp
      have hk0 : k - rl.length = 0 := by
        have := (List.getElem?_eq_some_iff.mp hp).1
        simp at this; omega
      rw [hk0] at hp
      cases hp
      have : k = i := by omega
      subst this
      exact ⟨_, _, rfl, hz.ints⟩
theorem tok_a {tk k : Nat} (h : tk + 1 ≤ k) : tk < k := h
theorem tok_b {tk k t : Nat} (h0 : 0 < tk) (h : t = tk ∨ tk + 1 ≤ t ∧ t < k) : t ≠ 0 := by omega
theorem tok_c {tk k t : Nat} (h0 : tk + 1 ≤ k) (h : t = tk ∨ tk + 1 ≤ t ∧ t < k) : t < k := by omega
/-- a pair of ints as an object -/
def PairO (o : Obj) (p : Nat × Nat) : Prop := ∃ (t u : Tok) (n : Nat), o = { cls := .type "tuple", data := .seq #[.int (p.1 : Int) t, .int (p.2 : Int) u] n }
def PairsJ (lim : Nat) (q : List (Nat × Nat)) (ys : List Value) (h : Heap) : Prop := ∃ tl : List (Addr × Obj), ys = tl.map (fun p => Value.ref p.1) ∧ (∀ p ∈ tl, lim < p.1 ∧ h.get? p.1 = some p.2 ∧ p.2.cls = .type "tuple") ∧ tl.length = q.length ∧ ∀ (n : Nat) (p : Nat × Nat), q[n]? = some p → ∃ o, tl[n]? = some o ∧ PairO o.2 p
theorem PairO.cls {o : Obj} {p : Nat × Nat} (h : PairO o p) : o.cls = .type "tuple" := by obtain ⟨t, u, n, rfl⟩ := h; rfl
theorem PairsJ.nil {lim : Nat} {h : Heap} : PairsJ lim [] [] h := ⟨[], rfl, by simp, rfl, by simp⟩
theorem PairsJ.len {lim : Nat} {q : List (Nat × Nat)} {ys : List Value} {h : Heap} (r : PairsJ lim q ys h) : ys.length = q.length := by
  obtain ⟨tl, a, b, c, d⟩ := r
  rw [a, List.length_map, c]
theorem PairsJ.keeps {lim : Nat} {q : List (Nat × Nat)} {ys : List Value} {h h' : Heap} (r : PairsJ lim q ys h) (k : ∀ (b : Addr) (o : Obj), lim < b → o.cls = .type "tuple" → h.get? b = some o → h'.get? b = some o) : PairsJ lim q ys h' := by
  obtain ⟨tl, a, b, c, d⟩ := r
  exact ⟨tl, a, fun p hp => ⟨(b p hp).1, k _ _ (b p hp).1 (b p hp).2.2 (b p hp).2.1, (b p hp).2.2⟩, c, d⟩
theorem PairsJ.snoc {lim : Nat} {q : List (Nat × Nat)} {ys : List Value} {h : Heap} (r : PairsJ lim q ys h) {D : Addr} {o : Obj} {p : Nat × Nat} (hD : lim < D) (e : h.get? D = some o) (ho : PairO o p) : PairsJ lim (q ++ [p]) (ys ++ [Value.ref D]) h := by
  obtain ⟨tl, a, b, c, d⟩ := r
  refine ⟨tl ++ [(D, o)], by rw [a]; simp, fun x hx => ?_, by simp [c], fun n x hx => ?_⟩
  · rcases List.mem_append.mp hx with hx | hx
    · exact b x hx
    · rw [List.mem_singleton.mp hx]; exact ⟨hD, e, ho.cls⟩
  · by_cases hn : n < q.length
    · rw [List.getElem?_append_left hn] at hx
      obtain ⟨o', h1, h2⟩ := d n x hx
      exact ⟨o', by rw [List.getElem?_append_left (by omega)]; exact h1, h2⟩
    · rw [List.getElem?_append_right (by omega)] at hx
      have hn0 : n - q.length = 0 := by
        have := (List.getElem?_eq_some_iff.mp hx).1
        simp at this; omega
      rw [hn0] at hx
      cases hx
      exact ⟨(D, o), by rw [List.getElem?_append_right (by omega), c, hn0]; rfl, ho⟩
/-- the pairs ahead of (k, i), in the list's order -/
def below (i : Nat) : List (Nat × Nat) := (List.range i).flatMap fun j => (List.range j).map fun a => (a, j)
def pairsTo (i k : Nat) : List (Nat × Nat) := below i ++ (List.range k).map fun a => (a, i)
theorem below_succ (i : Nat) : below (i + 1) = pairsTo i i := by simp [below, pairsTo, List.range_succ, List.flatMap_append]
theorem pairsTo_zero (i : Nat) : pairsTo i 0 = below i := by simp [pairsTo]
theorem pairsTo_step (i : Nat) : pairsTo i i = pairsTo (i + 1) 0 := by rw [pairsTo_zero, below_succ]
theorem pairsTo_snoc (i k : Nat) : pairsTo i (k + 1) = pairsTo i k ++ [(k, i)] := by simp [pairsTo, List.range_succ]
theorem mem_below {i : Nat} {p : Nat × Nat} : p ∈ below i ↔ p.1 < p.2 ∧ p.2 < i := by
  simp only [below, List.mem_flatMap, List.mem_map, List.mem_range]
  constructor
  · rintro ⟨j, hj, a, ha, rfl⟩; exact ⟨ha, hj⟩
  · rintro ⟨h1, h2⟩; exact ⟨p.2, h2, p.1, h1, rfl⟩
theorem below_len : ∀ i, 2 * (below i).length = i * (i - 1)
  | 0 => rfl
  | 1 => rfl
  | i + 2 => by
    have h := below_len (i + 1)
    rw [below_succ, pairsTo, List.length_append, List.length_map, List.length_range]
    simp only [Nat.add_sub_cancel] at h
    have e : i + 2 - 1 = i + 1 := by omega
    rw [e]
    simp only [Nat.add_mul, Nat.mul_add] at h ⊢
    omega
theorem comp_stored {h₀ h1 h : Heap} {L : Addr} {m m' : Str → Option Value} {news : List (Addr × Obj)} (F : Fr h₀ L h1 m) (N : News h₀ L h1 news) (kp : ∀ (b : Addr) (o : Obj), b ≠ L → h1.get? b = some o → h.get? b = some o) (hns : h.Ns L m') :
    Fr h₀ L h m' ∧ News h₀ L h news := by
  refine ⟨⟨hns, fun b o e => kp b o ?_ (F.keep b o e), F.above⟩, fun p hp => ⟨kp _ _ (N p hp).2.1 (N p hp).1, (N p hp).2⟩⟩
  exact Nat.ne_of_lt (Nat.lt_of_lt_of_le (Heap.lt_size e) F.above)

theorem News.ofMem {h₀ h1 h : Heap} {L : Addr} {m : Str → Option Value} {A B : List (Addr × Obj)} (F : Fr h₀ L h1 m) (N : News h₀ L h A) (hB : ∀ p ∈ B, p ∈ A ∨ (h1.objs.size ≤ p.1 ∧ h.get? p.1 = some p.2)) : News h₀ L h B := fun p hp => by
  rcases hB p hp with hq | ⟨a, b⟩
  · exact N p hq
  · refine ⟨b, Nat.ne_of_gt (Nat.lt_of_lt_of_le F.ns.lt a), ?_⟩
    cases q : h₀.get? p.1 with
    | none => rfl
    | some o' => exact absurd (Nat.lt_of_lt_of_le (Heap.lt_size (F.keep _ _ q)) a) (Nat.lt_irrefl _)
def Off7 (L ar aw : Nat) (rest : List (Nat × Obj)) : Prop := (L + 5 < ar ∧ L + 5 < aw ∧ ar ≠ aw) ∧ ∀ p ∈ rest, (p.1 < L ∨ L + 5 < p.1) ∧ p.1 ≠ ar ∧ p.1 ≠ aw
theorem Off7.five {L ar aw : Nat} {oR oW : Obj} {rest : List (Nat × Obj)} (h : Off7 L ar aw rest) : Off5 L ((ar, oR) :: (aw, oW) :: rest) := fun p hp => by
  rcases List.mem_cons.mp hp with rfl | hp
  · exact .inr h.1.1
  · rcases List.mem_cons.mp hp with rfl | hp
    · exact .inr h.1.2.1
    · exact (h.2 p hp).1
theorem Off7.cons {L ar aw D : Nat} {o : Obj} {rest : List (Nat × Obj)} (h : Off7 L ar aw rest) (hD : L + 5 < D) (h1 : D ≠ ar) (h2 : D ≠ aw) : Off7 L ar aw ((D, o) :: rest) := ⟨h.1, fun p hp => by
  rcases List.mem_cons.mp hp with rfl | hp
  · exact ⟨.inr hD, h1, h2⟩
  · exact h.2 p hp⟩
theorem Off7.app {L ar aw : Nat} {tl rest : List (Nat × Obj)} (h : Off7 L ar aw rest) (ht : ∀ p ∈ tl, L + 5 < p.1 ∧ p.1 ≠ ar ∧ p.1 ≠ aw) : Off7 L ar aw (tl ++ rest) := ⟨h.1, fun p hp => by
  rcases List.mem_append.mp hp with hp | hp
  · exact ⟨.inr (ht p hp).1, (ht p hp).2⟩
  · exact h.2 p hp⟩
theorem updR {L ar aw : Nat} {o1 o2 o3 o4 o5 oR oW : Obj} {rest : List (Nat × Obj)} (h : Off7 L ar aw rest) : UpdF ar oR ((L + 1 + 1 + 1 + 1 + 1, o5) :: (L + 1 + 1 + 1 + 1, o4) :: (L + 1 + 1 + 1, o3) :: (L + 1 + 1, o2) :: (L + 1, o1) :: (ar, oR) :: (aw, oW) :: rest) (fun o => (L + 1 + 1 + 1 + 1 + 1, o5) :: (L + 1 + 1 + 1 + 1, o4) :: (L + 1 + 1 + 1, o3) :: (L + 1 + 1, o2) :: (L + 1, o1) :: (ar, o) :: (aw, oW) :: rest) := by
  obtain ⟨⟨a, b, c⟩, d⟩ := h
  refine .tail ?_ (.tail ?_ (.tail ?_ (.tail ?_ (.tail ?_ (.head ?_)))))
  · show L + 5 ≠ ar; omega
  · show L + 4 ≠ ar; omega
  · show L + 3 ≠ ar; omega
  · show L + 2 ≠ ar; omega
  · show L + 1 ≠ ar; omega
  · exact List.forall_mem_cons.mpr ⟨Ne.symm c, fun p hp => (d p hp).2.1⟩
theorem updW {L ar aw : Nat} {o1 o2 o3 o4 o5 oR oW : Obj} {rest : List (Nat × Obj)} (h : Off7 L ar aw rest) : UpdF aw oW ((L + 1 + 1 + 1 + 1 + 1, o5) :: (L + 1 + 1 + 1 + 1, o4) :: (L + 1 + 1 + 1, o3) :: (L + 1 + 1, o2) :: (L + 1, o1) :: (ar, oR) :: (aw, oW) :: rest) (fun o => (L + 1 + 1 + 1 + 1 + 1, o5) :: (L + 1 + 1 + 1 + 1, o4) :: (L + 1 + 1 + 1, o3) :: (L + 1 + 1, o2) :: (L + 1, o1) :: (ar, oR) :: (aw, o) :: rest) := by
  obtain ⟨⟨a, b, c⟩, d⟩ := h
  refine .tail ?_ (.tail ?_ (.tail ?_ (.tail ?_ (.tail ?_ (.tail ?_ (.head ?_))))))
  · show L + 5 ≠ aw; omega
  · show L + 4 ≠ aw; omega
  · show L + 3 ≠ aw; omega
  · show L + 2 ≠ aw; omega
  · show L + 1 ≠ aw; omega
  · exact c
  · exact fun p hp => (d p hp).2.2
def TupsAre (tl : List (Addr × Obj)) (q : List (Nat × Nat)) : Prop := tl.length = q.length ∧ ∀ (n : Nat) (p : Nat × Nat), q[n]? = some p → ∃ o, tl[n]? = some o ∧ PairO o.2 p
def RowsAre (wl : List (Addr × Obj)) (ws : List (List Int)) : Prop := wl.length = ws.length ∧ ∀ (n : Nat) (row : List Int), ws[n]? = some row → ∃ p its kk, wl[n]? = some p ∧ p.2 = listOf its kk ∧ Ints its row
def refs (l : List (Addr × Obj)) : Array Value := (l.map fun p : Addr × Obj => Value.ref p.1).toArray
theorem refs_size (l : List (Addr × Obj)) : (refs l).size = l.length := by simp [refs]
theorem refs_get {l : List (Addr × Obj)} {i : Nat} {p : Addr × Obj} (h : l[i]? = some p) : (refs l)[i]? = some (Value.ref p.1) := by simp [refs, h]
theorem mid_mem {α : Type} {p x : α} {l r : List α} (h : p ∈ l ++ x :: r) : p = x ∨ p ∈ l ++ r := by
  rcases List.mem_append.mp h with h | h
  · exact .inr (List.mem_append_left _ h)
  · exact (List.mem_cons.mp h).imp_right (List.mem_append_right _)
theorem mid_front {α : Type} {p x : α} {l r : List α} (h : p ∈ l ++ x :: r) : p ∈ x :: (l ++ r) := List.mem_cons.mpr (mid_mem h)
theorem mid_app {α : Type} {p : α} {l a r : List α} (h : p ∈ l ++ (a ++ r)) : p ∈ l ++ r ∨ p ∈ a := by
  rcases List.mem_append.mp h with h | h
  · exact .inl (List.mem_append_left _ h)
  · exact (List.mem_append.mp h).symm.imp_left (List.mem_append_right _)
theorem start_mem {α : Type} {p x y z : α} {S r s u : List α} (h : p ∈ S ++ x :: y :: (r ++ (s ++ z :: u))) : p ∈ S ++ (r ++ y :: x :: u) ∨ p ∈ s ∨ p = z := by
  rcases List.mem_append.mp h with h | h
  · exact .inl (List.mem_append_left _ h)
  · rcases List.mem_cons.mp h with h | h
    · exact .inl (List.mem_append_right _ (List.mem_append_right _ (h ▸ .tail _ (.head _))))
    · rcases List.mem_cons.mp h with h | h
      · exact .inl (List.mem_append_right _ (List.mem_append_right _ (h ▸ .head _)))
      · rcases List.mem_append.mp h with h | h
        · exact .inl (List.mem_append_right _ (List.mem_append_left _ h))
        · rcases List.mem_append.mp h with h | h
          · exact .inr (.inl h)
          · rcases List.mem_cons.mp h with h | h
            · exact .inr (.inr h)
            · exact .inl (List.mem_append_right _ (List.mem_append_right _ (.tail _ (.tail _ h))))
structure LP (L as' : Nat) (ap : Nat) (c : Nat) (t : Tok) (ss : List Int) (news0 : List (Addr × Obj)) (m : Str → Option Value) (nw : List (Addr × Obj)) (tk taken : Nat) (o1 o2 o3 o4 o5 : Obj) (ar aw aq kr kw kq : Nat) (l : List (Nat × Nat)) (ws : List (List Int)) (wl tl : List (Addr × Obj)) (q : List (Nat × Nat)) (rest : List (Addr × Obj)) : Prop where
  eq : nw = (L + 1 + 1 + 1 + 1 + 1, o5) :: (L + 1 + 1 + 1 + 1, o4) :: (L + 1 + 1 + 1, o3) :: (L + 1 + 1, o2) :: (L + 1, o1) :: (ar, listOf (runArr l) kr) :: (aw, listOf (refs wl) kw) :: rest
  d1 : o1.data = Data.cell (some (Value.ref as'))
  d2 : o2.data = Data.cell (some (Value.ref ar))
  d3 : o3.data = Data.cell (some (Value.ref aw))
  d4 : ∃ v, o4.data = Data.cell v
  d5 : ∃ v, o5.data = Data.cell v
  wm : m "waiting" = some (Value.ref aq)
  tm : HI m "taken" (taken : Nat)
  sm : m "sign" = some (Value.str (S [c]) t)
  pm : m "picks" = some (Value.ref ap)
  off : Off7 L ar aw rest
  news : ∀ p ∈ news0, p ∈ rest
  qm : (aq, listOf (refs tl) kq) ∈ rest
  tlm : ∀ p ∈ tl, p ∈ rest
  tups : TupsAre tl q
  wlm : ∀ p ∈ wl, p ∈ rest ∧ L < p.1
  rows : RowsAre wl ws
  run : RunL l tk
  tk1 : 1 ≤ tk
  inv : CInv ss (l.map (·.1)) ws q taken
inductive LJ (L as' : Nat) (ap : Nat) (c : Nat) (t : Tok) (ss : List Int) (news0 : List (Addr × Obj)) : Nat → (Str → Option Value) → List (Addr × Obj) → Nat → Prop where
  | mk {m : Str → Option Value} {nw : List (Addr × Obj)} {tk taken : Nat} {o1 o2 o3 o4 o5 : Obj} {ar aw aq kr kw kq : Nat} {l : List (Nat × Nat)} {ws : List (List Int)} {wl tl : List (Addr × Obj)} {q : List (Nat × Nat)} {rest : List (Addr × Obj)} :
    LP L as' ap c t ss news0 m nw tk taken o1 o2 o3 o4 o5 ar aw aq kr kw kq l ws wl tl q rest → LJ L as' ap c t ss news0 (200 - taken) m nw tk
/-- how it begins -/
theorem dotp_unit (n k : Nat) (ss : List Int) : ∀ j, j ≤ n → dotp (unit n k) ss j = if k < j then ss.getD k 0 else 0
  | 0, _ => by simp [dotp]
  | j + 1, h => by
    rw [dotp, dotp_unit n k ss j (by omega), List.getD_eq_getElem?_getD (l := unit n k), unit_get (by omega)]
    simp only [Option.getD_some]
    by_cases h1 : k < j
    · have h3 : ¬ k = j := by omega
      have h4 : k < j + 1 := by omega
      simp only [h1, h3, h4, if_true, if_false]; omega
    · by_cases h2 : k = j
      · have h4 : k < j + 1 := by omega
        simp only [h1, h4, if_true, if_false]
        rw [if_pos h2, h2]; omega
      · have h4 : ¬ k < j + 1 := by omega
        simp only [h1, h2, h4, if_false]; omega
theorem CInv.start {ss : List Int} (hnd : ss.Nodup) (hb : ∀ z ∈ ss, 1 ≤ z ∧ z ≤ 18) : CInv ss (ss.map Int.toNat) ((List.range ss.length).map (unit ss.length)) (below ss.length) 0 := by
  have hg : ∀ i, i < ss.length → (ss.map Int.toNat).getD i 0 = (ss.getD i 0).toNat := fun i hi => by
    rw [List.getD_eq_getElem?_getD, List.getD_eq_getElem?_getD, List.getElem?_map, List.getElem?_eq_getElem hi]; rfl
  refine ⟨?_, ?_, ?_, ?_, ?_, ?_, ?_, ?_, ?_, ?_⟩
  · rw [List.nodup_iff_pairwise_ne, List.pairwise_map]
    refine List.Pairwise.imp_of_mem (fun {a b} ha hb' h => ?_) hnd
    have := hb a ha; have := hb b hb'; omega
  · intro x hx
    obtain ⟨z, hz, rfl⟩ := List.mem_map.mp hx
    have := hb z hz; omega
  · intro x hx
    obtain ⟨z, hz, rfl⟩ := List.mem_map.mp hx
    exact ⟨z, hz, Nat.le_refl _⟩
  · intro x hx g hg
    obtain ⟨z, hz, rfl⟩ := List.mem_map.mp hx
    exact hg z hz
  · intro s hs; exact List.mem_map.mpr ⟨s, hs, rfl⟩
  · simp
  · intro i r hi
    have hil : i < ss.length := by
      have := (List.getElem?_eq_some_iff.mp hi).1
      simpa using this
    rw [List.getElem?_map, List.getElem?_range hil] at hi
    cases hi
    refine ⟨unit_len _ _, ?_⟩
    rw [dotp_unit _ _ _ _ (Nat.le_refl _), if_pos hil, hg i hil]
    have := hb _ (List.mem_of_getElem? (show ss[i]? = some (ss.getD i 0) by rw [List.getD_eq_getElem?_getD, List.getElem?_eq_getElem hil]; rfl))
    omega
  · intro p hp
    have := mem_below.mp hp
    rw [List.length_map]
    exact ⟨by omega, by omega, by omega⟩
  · intro i j hij hj
    rw [List.length_map] at hj
    exact .inl (mem_below.mpr ⟨hij, hj⟩)
  · rw [List.length_map, Nat.add_zero]; exact below_len _
theorem start_led {h₀ h1 h : Heap} {L ar aw aq : Addr} {m : Str → Option Value} {o1 o2 o3 o4 o5 oR oW oq : Obj} {rl tl news : List (Addr × Obj)} (F : Fr h₀ L h1 m) (N : News h₀ L h ((L + 1 + 1 + 1 + 1 + 1, o5) :: (L + 1 + 1 + 1 + 1, o4) :: (L + 1 + 1 + 1, o3) :: (L + 1 + 1, o2) :: (L + 1, o1) :: (rl ++ (aw, oW) :: (ar, oR) :: news)))
    (ht : ∀ p ∈ tl, h1.objs.size ≤ p.1 ∧ h.get? p.1 = some p.2) (hq : h1.objs.size ≤ aq) (hqq : h.get? aq = some oq) :
    News h₀ L h ((L + 1 + 1 + 1 + 1 + 1, o5) :: (L + 1 + 1 + 1 + 1, o4) :: (L + 1 + 1 + 1, o3) :: (L + 1 + 1, o2) :: (L + 1, o1) :: (ar, oR) :: (aw, oW) :: (rl ++ (tl ++ (aq, oq) :: news))) := by
  refine News.ofMem F N fun p hp => ?_
  rcases start_mem (S := [(L + 1 + 1 + 1 + 1 + 1, o5), (L + 1 + 1 + 1 + 1, o4), (L + 1 + 1 + 1, o3), (L + 1 + 1, o2), (L + 1, o1)]) hp with q | q | q
  · exact .inl q
  · exact .inr (ht p q)
  · exact .inr (q ▸ ⟨hq, hqq⟩)
theorem start_off {L ar aw aq : Nat} {oq : Obj} {rl tl news : List (Nat × Obj)} (l1 : ∀ p ∈ news, p.1 < L) (h0 : L + 5 < ar) (h1 : ar < aw) (h2 : ∀ p ∈ rl, aw < p.1) (h3 : ∀ p ∈ tl, aw < p.1) (hq : aw < aq) : Off7 L ar aw (rl ++ (tl ++ (aq, oq) :: news)) := by
  refine Off7.app (Off7.app (Off7.cons ⟨⟨h0, by omega, by omega⟩, fun p hp => ?_⟩ (by omega) (by omega) (by omega)) fun p hp => ?_) fun p hp => ?_
  · have := l1 p hp
    exact ⟨.inl this, by omega, by omega⟩
  · have := h3 p hp
    exact ⟨by omega, by omega, by omega⟩
  · have := h2 p hp
    exact ⟨by omega, by omega, by omega⟩
theorem RunJ.pos {ss : List Int} {n : Nat} {ys : List Value} {tk : Nat} (h : RunJ ss n ys tk) (hn : 0 < n) (hs : 0 < ss.length) : 1 ≤ tk := by
  obtain ⟨l, _, b, c⟩ := h
  cases l with
  | nil =>
    have := congrArg List.length b
    simp at this; omega
  | cons p r => have := c p (by simp); omega
theorem rows_start {n : Nat} {rl : List (Addr × Obj)} (hl : rl.length = n) (h : ∀ (k : Nat) (p : Addr × Obj), rl[k]? = some p → ∃ its kk, p.2 = listOf its kk ∧ Ints its (unit n k)) : RowsAre rl ((List.range n).map (unit n)) := by
  refine ⟨by simp [hl], fun k row hk => ?_⟩
  have hkn : k < n := by
    have := (List.getElem?_eq_some_iff.mp hk).1
    simpa using this
  rw [List.getElem?_map, List.getElem?_range hkn] at hk
  cases hk
  obtain ⟨its, kk, a, b⟩ := h k _ (List.getElem?_eq_getElem (by omega))
  exact ⟨_, its, kk, List.getElem?_eq_getElem (by omega), a, b⟩
theorem While_LJ {prog : Program} {w : World} {A : Around} {E : Value → Shared → Prop} {Q : Flow → Shared → Prop} {s : Shared} {env : Env} {h₀ : Heap} {L : Addr} {test : Expr} {body : List Stmt} {pos : Pos} {m : Str → Option Value} {news : List (Addr × Obj)} (as' ap c : Nat) (t : Tok) (ss : List Int) (news0 : List (Addr × Obj)) (n₀ : Nat)
    (F : Fr h₀ L s.heap m) (N : News h₀ L s.heap news) (hJ : LJ L as' ap c t ss news0 n₀ m news s.toks)
    (turn : ∀ n m₁ news₁ h₁ tk₁ (R : Flow → Shared → Prop) (Z : Shared → Prop) (E' : Value → Shared → Prop), Fr h₀ L h₁ m₁ → News h₀ L h₁ news₁ → LJ L as' ap c t ss news0 n m₁ news₁ tk₁ → (∀ f s₃, WStep h₀ L s (LJ L as' ap c t ss news0) Q n f s₃ → R f s₃) → (∀ s₂, Q .next s₂ → Z s₂) →
      wpAny (model prog w) A (isTrue test env (eval test env)) (fun b s₂ => if b = true then wpAny (model prog w) A (execs body env) R E' s₂ else Z s₂) E' { s with heap := h₁, toks := tk₁ })
    (hE : PassesOwn (model prog w) A env E) :
    wpAny (model prog w) A (exec (.While test body [] pos) env) Q E s := While_t (LJ L as' ap c t ss news0) F N hJ turn hE
/-- a list against the empty one -/
theorem ne_empty {prog : Program} {w : World} {A : Around} {E : Value → Shared → Prop} {s : Shared} {h₀ : Heap} {L : Addr} {news : List (Addr × Obj)} {a b : Addr} {its jts : Array Value} {n n2 : Nat} {Q : Value → Shared → Prop} (N : News h₀ L s.heap news) (ha : (a, listOf its n) ∈ news) (hb : (b, listOf jts n2) ∈ news) (hj : jts.size = 0) (hu : A.units < cLine) (bb : Bool)
    (hbb : (its.size != 0) = bb) (h : Q (.bool bb) s) : wpAny (model prog w) A (compareOp .NotEq (.ref a) (.ref b)) Q E s := by
  have hl := (N _ ha).1
  have hr := (N _ hb).1
  subst hbb
  by_cases hz : its.size = 0
  · have e : (its.size != 0) = false := by simp [hz]
    rw [e] at h
    refine richCompare_meets_room (op := .NotEq) ⟨_, hl, rfl⟩ ⟨_, hr, rfl⟩ F.slot_list_ne F.entry_list_ne (F.args_list_ne_2 _ _) (PySem.SeqAt.list_neAt a b its jts n n2 none none #[] #[] (by omega) fun _ => true)
      ⟨hl, hr, fun j h1 _ => absurd h1 (by omega), ?_⟩ hu
    rw [hz]
    exact ⟨(fun x => nomatch x), h⟩
  · have e : (its.size != 0) = true := by simpa using hz
    rw [e] at h
    exact richCompare_meets_room (op := .NotEq) ⟨_, hl, rfl⟩ ⟨_, hr, rfl⟩ F.slot_list_ne F.entry_list_ne (F.args_list_ne_2 _ _) (PySem.SeqAt.list_ne_lengthsAt a b its jts n n2 none none #[] #[] (by rw [hj]; exact e))
      ⟨hl, hr, ⟨(fun x => nomatch x), h⟩⟩ hu
section
variable {prog : Program} {w : World} {A : Around} {E : Value → Shared → Prop} {s : Shared} {h₀ : Heap} {L : Addr} {news : List (Addr × Obj)} {value slice : PySem.Expr} {a : Addr} {i : Int} {u : Tok} {Q : Value → Shared → Prop}
theorem mod_em {b c : Int} {t : Tok} (hb : 0 < c) (h : ∀ r : Int, r = b % c → 0 ≤ r → r < c → Q (.int r s.toks) { s with toks := s.toks + 1 }) : wpAny (model prog w) A (binaryOp .Mod (.int b t) (.int c u)) Q E s :=
  PyProof.Rows.mod_int' (by omega) (by rw [Int.fmod_eq_emod_of_nonneg _ (by omega)]; exact h _ rfl (Int.emod_nonneg _ (by omega)) (Int.emod_lt_of_pos _ hb))
theorem it_ints {its : Array Value} {k : Nat} {xs : List Int} (N : News h₀ L s.heap news) (hm : (a, listOf its k) ∈ news) (hI : Ints its xs) (h0 : 0 ≤ i) (h1 : i < xs.length) (h2 : xs.length ≤ 10000) (h : ∀ (x : Int) (t : Tok), xs[i.toNat]? = some x → Q (.int x t) s)
    (hs : subscripted slice false (.ref a) (.int i u) = operate [.ref a, .int i u] (getItem (.ref a) (.int i u)) := by with_unfolding_all rfl) :
    wpAny (model prog w) A (subscriptTail value slice (.ref a) (.int i u)) Q E s := by
  have e : xs[i.toNat]? = some (xs.getD i.toNat 0) := by rw [List.getD_eq_getElem?_getD, List.getElem?_eq_getElem (by omega)]; rfl
  obtain ⟨t, ht⟩ := hI.2 _ _ e
  exact item_l (isList_of N hm) h0 (by omega) ht (h _ t e) hs
theorem it_runs {l : List (Nat × Nat)} {rs : List Nat} {k n : Nat} (N : News h₀ L s.heap news) (hm : (a, listOf (runArr l) k) ∈ news) (hrs : l.map (·.1) = rs) (h1 : n < l.length) (h2 : l.length ≤ 10000) (h : ∀ (t : Nat), l[n]? = some (rs.getD n 0, t) → Q (.str (S (rep (rs.getD n 0))) t) s)
    (hs : subscripted slice false (.ref a) (.int (n : Int) u) = operate [.ref a, .int (n : Int) u] (getItem (.ref a) (.int (n : Int) u)) := by with_unfolding_all rfl) :
    wpAny (model prog w) A (subscriptTail value slice (.ref a) (.int (n : Int) u)) Q E s := by
  have e : rs.getD n 0 = l[n].1 := by rw [← hrs, List.getD_eq_getElem?_getD, List.getElem?_map, List.getElem?_eq_getElem h1]; rfl
  refine item_l (isList_of N hm) (by omega) (by omega) ?_ (h l[n].2 (by rw [e]; exact List.getElem?_eq_getElem h1)) hs
  rw [e]
  simp [runArr, h1]
theorem it_ways {wl rest : List (Addr × Obj)} {ws : List (List Int)} {k n : Nat} (N : News h₀ L s.heap news) (hm : (a, listOf (refs wl) k) ∈ news) (hR : RowsAre wl ws) (hW : ∀ p ∈ wl, p ∈ rest ∧ L < p.1) (h1 : n < ws.length) (h2 : ws.length ≤ 10000)
    (h : ∀ (b : Addr) its kk, (b, listOf its kk) ∈ rest → Ints its (ws.getD n []) → Q (.ref b) s)
    (hs : subscripted slice false (.ref a) (.int (n : Int) u) = operate [.ref a, .int (n : Int) u] (getItem (.ref a) (.int (n : Int) u)) := by with_unfolding_all rfl) :
    wpAny (model prog w) A (subscriptTail value slice (.ref a) (.int (n : Int) u)) Q E s := by
  have e : ws[n]? = some (ws.getD n []) := by rw [List.getD_eq_getElem?_getD, List.getElem?_eq_getElem h1]; rfl
  obtain ⟨p, its, kk, c1, c2, c3⟩ := hR.2 _ _ e
  have hp := (hW p (List.mem_of_getElem? c1)).1
  exact item_l (isList_of N hm) (by omega) (by omega) (refs_get c1) (h p.1 its kk (by rw [← c2]; exact hp) c3) hs
theorem it_tups {tl rest : List (Addr × Obj)} {q : List (Nat × Nat)} {k nn : Nat} (N : News h₀ L s.heap news) (hm : (a, listOf (refs tl) k) ∈ news) (hR : TupsAre tl q) (hW : ∀ p ∈ tl, p ∈ rest) (hO : ∀ p ∈ q, p.1 < nn ∧ p.2 < nn ∧ p.1 ≠ p.2) (h0 : 0 ≤ i) (h1 : i < q.length) (h2 : q.length ≤ 10000)
    (h : ∀ (b : Addr) (x y : Nat) (t u : Tok) (n : Nat), q[i.toNat]? = some (x, y) → x < nn → y < nn → x ≠ y → (b, ({ cls := .type "tuple", data := .seq #[.int (x : Int) t, .int (y : Int) u] n } : Obj)) ∈ rest → Q (.ref b) s)
    (hs : subscripted slice false (.ref a) (.int i u) = operate [.ref a, .int i u] (getItem (.ref a) (.int i u)) := by with_unfolding_all rfl) :
    wpAny (model prog w) A (subscriptTail value slice (.ref a) (.int i u)) Q E s := by
  have ⟨xy, e⟩ : ∃ xy, q[i.toNat]? = some xy := ⟨q[i.toNat]'(by omega), List.getElem?_eq_getElem (by omega)⟩
  obtain ⟨x, y⟩ := xy
  obtain ⟨p, c1, t, u, n, c2⟩ := hR.2 _ _ e
  have c3 : p.2 = ({ cls := .type "tuple", data := .seq #[.int (x : Int) t, .int (y : Int) u] n } : Obj) := c2
  have hp := hW p (List.mem_of_getElem? c1)
  obtain ⟨o1, o2, o3⟩ := hO _ (List.mem_of_getElem? e)
  exact item_l (isList_of N hm) h0 (by omega) (refs_get c1) (h p.1 x y t u n e o1 o2 o3 (by rw [← c3]; exact hp)) hs
end
theorem refs_toList (l : List (Addr × Obj)) : (refs l).toList = l.map fun p => Value.ref p.1 := by simp [refs]
section
variable {prog : Program} {w : World} {A : Around} {E : Value → Shared → Prop} {s : Shared} {h₀ : Heap} {L : Addr} {m : Str → Option Value} {news : List (Addr × Obj)} {value slice : PySem.Expr} {a b : Addr} {i : Int} {u : Tok} {Q : Value → Shared → Prop} {tl : List (Addr × Obj)} {k : Nat}
theorem sl_to (F : Fr h₀ L s.heap m) (N : News h₀ L s.heap news) (hm : (a, listOf (refs tl) k) ∈ news) (h0 : 0 ≤ i) (h1 : i ≤ tl.length) (h2 : tl.length ≤ 10000)
    (h : ∀ D h', Fr h₀ L h' m → News h₀ L h' ((D, listOf (refs (tl.take i.toNat)) 0) :: news) → (∀ p ∈ news, p.1 < D) → Q (.ref D) { s with heap := h' })
    (hs : subscripted slice false (.ref a) (.ref s.heap.objs.size) = operate [.ref s.heap.objs.size, .ref a] (getItem (.ref a) (.ref s.heap.objs.size)) := by with_unfolding_all rfl) (ht : ∀ r, letTemporaryGo value (.ref a) r = pure () := by intro _; with_unfolding_all rfl) :
    wpAny (model prog w) A (subscriptTail value slice (.ref a) (.ref s.heap.objs.size)) Q E { s with heap := s.heap.push { cls := .type "slice", data := .fields #[.none, .int i u, .none] } } := by
  refine kms_slice_lit (zs := (tl.take i.toNat).map fun p : Addr × Obj => Value.ref p.1) F N (isList_of N hm) .none (.int i u) ?_ h hs ht (by rw [refs_size, sizeLine_eq]; omega)
  rw [refs_toList]
  simp only [kms_pick, kms_lo, kms_hi, List.length_map]
  rw [if_neg (by omega), List.drop_zero, Nat.sub_zero, Nat.min_eq_left (by omega), List.map_take]
theorem sl_from (F : Fr h₀ L s.heap m) (N : News h₀ L s.heap news) (hm : (a, listOf (refs tl) k) ∈ news) (h0 : 0 ≤ i) (h1 : i ≤ tl.length) (h2 : tl.length ≤ 10000)
    (h : ∀ D h', Fr h₀ L h' m → News h₀ L h' ((D, listOf (refs (tl.drop i.toNat)) 0) :: news) → (∀ p ∈ news, p.1 < D) → Q (.ref D) { s with heap := h' })
    (hs : subscripted slice false (.ref a) (.ref s.heap.objs.size) = operate [.ref s.heap.objs.size, .ref a] (getItem (.ref a) (.ref s.heap.objs.size)) := by with_unfolding_all rfl) (ht : ∀ r, letTemporaryGo value (.ref a) r = pure () := by intro _; with_unfolding_all rfl) :
    wpAny (model prog w) A (subscriptTail value slice (.ref a) (.ref s.heap.objs.size)) Q E { s with heap := s.heap.push { cls := .type "slice", data := .fields #[.int i u, .none, .none] } } := by
  refine kms_slice_lit (zs := (tl.drop i.toNat).map fun p : Addr × Obj => Value.ref p.1) F N (isList_of N hm) (.int i u) .none ?_ h hs ht (by rw [refs_size, sizeLine_eq]; omega)
  rw [refs_toList]
  simp only [kms_pick, kms_lo, kms_hi, List.length_map]
  rw [if_neg (by omega), Nat.min_eq_left (by omega), List.map_drop, List.take_of_length_le (by rw [List.length_drop, List.length_map]; exact Nat.le_refl _)]
theorem add_refs {x y : List (Addr × Obj)} {k2 : Nat} (F : Fr h₀ L s.heap m) (N : News h₀ L s.heap news) (hm : (a, listOf (refs x) k) ∈ news) (hm2 : (b, listOf (refs y) k2) ∈ news) (hz : x.length + y.length ≤ 10000)
    (h : ∀ D h', Fr h₀ L h' m → News h₀ L h' ((D, listOf (refs (x ++ y)) 0) :: news) → (∀ p ∈ news, p.1 < D) → Q (.ref D) { s with heap := h' }) :
    wpAny (model prog w) A (binaryOp .Add (.ref a) (.ref b)) Q E s := by
  refine add_lists (vs := x.map fun p : Addr × Obj => Value.ref p.1) (ws := y.map fun p : Addr × Obj => Value.ref p.1) F N (isList_of N hm) (isList_of N hm2) (fun h' F' N' => h _ h' F' ?_ fun p hp => Heap.lt_size (N p hp).1) (by rw [List.length_map, List.length_map, sizeLine_eq]; omega)
  rw [← List.map_append] at N'
  exact N'
theorem has_listN {xs : Array Value} {kk : Nat} {tk : Tok} (F : Fr h₀ L s.heap m) (N : News h₀ L s.heap news) (hm : (a, listOf xs kk) ∈ news) (h : ∀ h' k, Fr h₀ L h' m → News h₀ L h' news → Q (.bool true) { s with heap := h', toks := k }) :
    wpAny (model prog w) A (call (.builtin "hasattr") [.ref a, .str "__getitem__" tk]) Q E s := has_list F N (N _ hm).1 h
end
theorem CInv.ok {ss : List Int} {l : List (Nat × Nat)} {ws : List (List Int)} {q : List (Nat × Nat)} {taken : Nat} (C : CInv ss (l.map (·.1)) ws q taken) : ∀ p ∈ q, p.1 < l.length ∧ p.2 < l.length ∧ p.1 ≠ p.2 := fun p hp => by
  have := C.qok p hp
  rwa [List.length_map] at this
theorem map_getD {l : List (Nat × Nat)} {i : Nat} {p : Nat × Nat} (h : l[i]? = some p) : (l.map (·.1)).getD i 0 = p.1 := by
  rw [List.getD_eq_getElem?_getD, List.getElem?_map, h]; rfl
theorem CInv.ne2 {ss : List Int} {l : List (Nat × Nat)} {ws : List (List Int)} {q : List (Nat × Nat)} {taken : Nat} (C : CInv ss (l.map (·.1)) ws q taken) : ∀ (i j : Nat) (p p' : Nat × Nat), l[i]? = some p → l[j]? = some p' → i ≠ j → p.1 ≠ p'.1 := fun i j p p' h h' hij => by
  have hi : i < l.length := (List.getElem?_eq_some_iff.mp h).1
  have hj : j < l.length := (List.getElem?_eq_some_iff.mp h').1
  have := C.ne (i := i) (j := j) (by rw [List.length_map]; exact hi) (by rw [List.length_map]; exact hj) hij
  rwa [map_getD h, map_getD h'] at this
theorem CInv.rng2 {ss : List Int} {l : List (Nat × Nat)} {ws : List (List Int)} {q : List (Nat × Nat)} {taken : Nat} (C : CInv ss (l.map (·.1)) ws q taken) : ∀ (i : Nat) (p : Nat × Nat), l[i]? = some p → 1 ≤ p.1 ∧ p.1 ≤ 18 := fun i p h => C.rng _ (List.mem_map.mpr ⟨p, List.mem_of_getElem? h, rfl⟩)
theorem cnt_zero {d : Nat} {l : List (Nat × Nat)} : cnt d l = 0 ↔ d ∉ l.map (·.1) := by
  rw [cnt, List.countP_eq_zero]
  constructor
  · intro h hd
    obtain ⟨p, hp, rfl⟩ := List.mem_map.mp hd
    have := h p hp
    simp at this
  · intro h p hp e
    have : p.1 = d := by simpa using e
    exact h (List.mem_map.mpr ⟨p, hp, this⟩)
theorem len_rep {prog : Program} {w : World} {A : Around} {E : Value → Shared → Prop} {s : Shared} {n : Nat} {t : Tok} {Q : Value → Shared → Prop} (hl : n ≤ 1000000) (h : Q (.int n (s.toks + 1)) { s with toks := s.toks + 1 + 1 }) : wpAny (model prog w) A (call (.builtin "len") [.str (S (rep n)) t]) Q E s :=
  len_S (by rw [rep_len]; exact hl) (by rw [rep_len]; exact h)
theorem cut_get {α : Type} {l : List α} {n k : Nat} (hn : n < l.length) : (l.take n ++ l.drop (n + 1))[k]? = if k < n then l[k]? else l[k + 1]? := by
  by_cases hk : k < n
  · rw [if_pos hk, List.getElem?_append_left (by rw [List.length_take]; omega), List.getElem?_take_of_lt hk]
  · rw [if_neg hk, List.getElem?_append_right (by rw [List.length_take]; omega), List.length_take, Nat.min_eq_left (by omega), List.getElem?_drop]
    congr 1; omega
theorem TupsAre.cut {tl : List (Addr × Obj)} {q : List (Nat × Nat)} (h : TupsAre tl q) {n : Nat} (hn : n < q.length) : TupsAre (tl.take n ++ tl.drop (n + 1)) (q.take n ++ q.drop (n + 1)) := by
  have h1 := cut_len hn
  have h2 := cut_len (q := tl) (n := n) (by rw [h.1]; exact hn)
  refine ⟨by have := h.1; omega, fun k p hp => ?_⟩
  rw [cut_get hn] at hp
  rw [cut_get (by rw [h.1]; exact hn)]
  by_cases hk : k < n
  · rw [if_pos hk] at hp ⊢; exact h.2 _ _ hp
  · rw [if_neg hk] at hp ⊢; exact h.2 _ _ hp
theorem TupsAre.app {tl tl2 : List (Addr × Obj)} {q q2 : List (Nat × Nat)} (h : TupsAre tl q) (h2 : TupsAre tl2 q2) : TupsAre (tl ++ tl2) (q ++ q2) := by
  refine ⟨by rw [List.length_append, List.length_append, h.1, h2.1], fun k p hp => ?_⟩
  by_cases hk : k < q.length
  · rw [List.getElem?_append_left hk] at hp
    obtain ⟨o, a, b⟩ := h.2 _ _ hp
    exact ⟨o, by rw [List.getElem?_append_left (by rw [h.1]; exact hk)]; exact a, b⟩
  · rw [List.getElem?_append_right (by omega)] at hp
    obtain ⟨o, a, b⟩ := h2.2 _ _ hp
    exact ⟨o, by rw [List.getElem?_append_right (by rw [h.1]; omega), h.1]; exact a, b⟩
theorem News.sub {h₀ h : Heap} {L : Addr} {A B : List (Addr × Obj)} (N : News h₀ L h A) (hB : ∀ p ∈ B, p ∈ A) : News h₀ L h B := fun p hp => N p (hB p hp)
/-- the pair is taken off -/
theorem turn_q {h₀ h : Heap} {L ar aw d x y : Nat} {i : Int} {q : List (Nat × Nat)} {tl rest : List (Addr × Obj)} {e1 e2 e3 : Addr × Obj} {o1 o2 o3 o4 o5 oR oW : Obj} (hx : q[i.toNat]? = some (x, y)) (h0 : 0 ≤ i) (T : TupsAre tl q) (O : Off7 L ar aw rest)
    (N : News h₀ L h ((d, listOf (refs (tl.take i.toNat ++ tl.drop (i + 1).toNat)) 0) :: e1 :: e2 :: e3 :: (L + 1 + 1 + 1 + 1 + 1, o5) :: (L + 1 + 1 + 1 + 1, o4) :: (L + 1 + 1 + 1, o3) :: (L + 1 + 1, o2) :: (L + 1, o1) :: (ar, oR) :: (aw, oW) :: rest))
    (l : ∀ p ∈ e1 :: e2 :: e3 :: (L + 1 + 1 + 1 + 1 + 1, o5) :: (L + 1 + 1 + 1 + 1, o4) :: (L + 1 + 1 + 1, o3) :: (L + 1 + 1, o2) :: (L + 1, o1) :: (ar, oR) :: (aw, oW) :: rest, p.1 < d) :
    ∃ n tl2, q[n]? = some (x, y) ∧ (∀ p ∈ tl2, p ∈ tl) ∧ TupsAre tl2 (q.take n ++ q.drop (n + 1)) ∧ tl2.length + 1 = q.length ∧
      News h₀ L h ((L + 1 + 1 + 1 + 1 + 1, o5) :: (L + 1 + 1 + 1 + 1, o4) :: (L + 1 + 1 + 1, o3) :: (L + 1 + 1, o2) :: (L + 1, o1) :: (ar, oR) :: (aw, oW) :: (d, listOf (refs tl2) 0) :: rest) ∧ Off7 L ar aw ((d, listOf (refs tl2) 0) :: rest) := by
  have e : (i + 1).toNat = i.toNat + 1 := Int.toNat_add h0 (by decide)
  rw [e] at N
  have hn : i.toNat < q.length := (List.getElem?_eq_some_iff.mp hx).1
  refine ⟨i.toNat, _, hx, fun p hp => cut_sub hp, T.cut hn, ?_, News.sub N fun p hp => ?_, O.cons ?_ ?_ ?_⟩
  · rw [cut_len (by rw [T.1]; exact hn), T.1]
  · rcases mid_mem (l := [(L + 1 + 1 + 1 + 1 + 1, o5), (L + 1 + 1 + 1 + 1, o4), (L + 1 + 1 + 1, o3), (L + 1 + 1, o2), (L + 1, o1), (ar, oR), (aw, oW)]) hp with h | h
    · exact h ▸ List.mem_cons_self
    · exact .tail _ (.tail _ (.tail _ (.tail _ h)))
  · exact l (L + 1 + 1 + 1 + 1 + 1, o5) (.tail _ (.tail _ (.tail _ (.head _))))
  · exact Nat.ne_of_gt (l (ar, oR) (.tail _ (.tail _ (.tail _ (.tail _ (.tail _ (.tail _ (.tail _ (.tail _ (.head _))))))))))
  · exact Nat.ne_of_gt (l (aw, oW) (.tail _ (.tail _ (.tail _ (.tail _ (.tail _ (.tail _ (.tail _ (.tail _ (.tail _ (.head _)))))))))))
theorem gt_of {q : List (Nat × Nat)} {n x y : Nat} (_ : q[n]? = some (x, y)) (rs : List Nat) : rs.getD x 0 > rs.getD y 0 ∨ ¬ rs.getD x 0 > rs.getD y 0 := Classical.em _
theorem cz_in {d : Nat} {l : List (Nat × Nat)} {rs : List Nat} (hrs : l.map (·.1) = rs) (h : d ∈ rs) : ¬ ((cnt d l : Nat) : Int) = 0 := fun e => by
  have : cnt d l = 0 := by omega
  rw [cnt_zero, hrs] at this
  exact this h
theorem cz_out {d : Nat} {l : List (Nat × Nat)} {rs : List Nat} (hrs : l.map (·.1) = rs) (h : d ∉ rs) : ((cnt d l : Nat) : Int) = 0 := by
  have : cnt d l = 0 := by rw [cnt_zero, hrs]; exact h
  omega
theorem bnd_of {ss : List Int} {rs : List Nat} {ws : List (List Int)} {q : List (Nat × Nat)} {taken n x y : Nat} (hq : q[n]? = some (x, y)) (C : CInv ss rs ws q taken) : rs.getD x 0 ≤ 18 ∧ rs.getD y 0 ≤ 18 ∧ x < rs.length ∧ y < rs.length := by
  obtain ⟨a, b, _⟩ := C.qok _ (List.mem_of_getElem? hq)
  exact ⟨(C.rng _ (getD_mem' a)).2, (C.rng _ (getD_mem' b)).2, a, b⟩
theorem in_of {d : Nat} {l : List (Nat × Nat)} {rs : List Nat} (hrs : l.map (·.1) = rs) (h : ((cnt d l : Nat) : Int) ≠ 0) : d ∈ rs := by
  by_cases hd : d ∈ rs
  · exact hd
  · exact absurd (cz_out hrs hd) h
theorem out_of {d : Nat} {l : List (Nat × Nat)} {rs : List Nat} (hrs : l.map (·.1) = rs) (h : ((cnt d l : Nat) : Int) = 0) : d ∉ rs := fun hd => cz_in hrs hd h
theorem CInv.rowlen {ss : List Int} {rs : List Nat} {ws : List (List Int)} {q : List (Nat × Nat)} {taken : Nat} (C : CInv ss rs ws q taken) {i : Nat} (hi : i < rs.length) : (ws.getD i []).length = ss.length := by
  have e : ws[i]? = some (ws.getD i []) := by rw [List.getD_eq_getElem?_getD, List.getElem?_eq_getElem (by rw [C.wlen]; exact hi)]; rfl
  exact (C.row i _ e).1
theorem cells_gt {h₀ h : Heap} {L D : Addr} {oT o4 o5 : Obj} {r0 : List (Addr × Obj)} {ss : List Int} {rs : List Nat} {ws : List (List Int)} {q : List (Nat × Nat)} {taken n X Y : Nat} {t u : Tok} (hq : q[n]? = some (X, Y)) (C : CInv ss rs ws q taken) (hg : ((rs.getD Y 0 : Nat) : Int) < ((rs.getD X 0 : Nat) : Int))
    (_ : News h₀ L h ((D, oT) :: (L + 1 + 1 + 1 + 1 + 1, o5) :: (L + 1 + 1 + 1 + 1, o4) :: r0)) (d4 : o4.data = Data.cell (some (.int (X : Int) t))) (d5 : o5.data = Data.cell (some (.int (Y : Int) u))) :
    ∃ (LO SH : Nat) (t4 t5 : Tok), newRow ss rs ws X Y = rowsub (ws.getD LO []) (ws.getD SH []) ss.length ∧ (ws.getD LO []).length = ss.length ∧ (ws.getD SH []).length = ss.length ∧ LO < ws.length ∧ SH < ws.length ∧ o4.data = Data.cell (some (.int (LO : Int) t4)) ∧ o5.data = Data.cell (some (.int (SH : Int) t5)) := by
  obtain ⟨_, _, c1, c2⟩ := bnd_of hq C
  refine ⟨X, Y, t, u, ?_, C.rowlen c1, C.rowlen c2, by rw [C.wlen]; exact c1, by rw [C.wlen]; exact c2, d4, d5⟩
  unfold newRow; rw [if_pos (by omega)]
theorem cells_le {h₀ h : Heap} {L D : Addr} {oT o4 o5 : Obj} {r0 : List (Addr × Obj)} {ss : List Int} {rs : List Nat} {ws : List (List Int)} {q : List (Nat × Nat)} {taken n X Y : Nat} {t u : Tok} (hq : q[n]? = some (X, Y)) (C : CInv ss rs ws q taken) (hg : ¬ ((rs.getD Y 0 : Nat) : Int) < ((rs.getD X 0 : Nat) : Int))
    (_ : News h₀ L h ((D, oT) :: (L + 1 + 1 + 1 + 1 + 1, o5) :: (L + 1 + 1 + 1 + 1, o4) :: r0)) (d4 : o4.data = Data.cell (some (.int (Y : Int) t))) (d5 : o5.data = Data.cell (some (.int (X : Int) u))) :
    ∃ (LO SH : Nat) (t4 t5 : Tok), newRow ss rs ws X Y = rowsub (ws.getD LO []) (ws.getD SH []) ss.length ∧ (ws.getD LO []).length = ss.length ∧ (ws.getD SH []).length = ss.length ∧ LO < ws.length ∧ SH < ws.length ∧ o4.data = Data.cell (some (.int (LO : Int) t4)) ∧ o5.data = Data.cell (some (.int (SH : Int) t5)) := by
  obtain ⟨_, _, c1, c2⟩ := bnd_of hq C
  refine ⟨Y, X, t, u, ?_, C.rowlen c2, C.rowlen c1, by rw [C.wlen]; exact c2, by rw [C.wlen]; exact c1, d4, d5⟩
  unfold newRow; rw [if_neg (by omega)]
theorem cell_of {h₀ h : Heap} {L a : Addr} {o : Obj} {v : Option Value} {news : List (Addr × Obj)} (N : News h₀ L h news) (hm : (a, o) ∈ news) (hd : o.data = Data.cell v) : h.IsCell a v := ⟨o, (N _ hm).1, hd⟩
theorem way_step {A B : List Int} {n k : Nat} {x y : Int} (hx : A[(0 + (k : Int)).toNat]? = some x) (hy : B[(0 + (k : Int)).toNat]? = some y) (hk : k < n) : (rowsub A B n)[k]? = some (x - y) := by
  have e : (0 + (k : Int)).toNat = k := by omega
  rw [e] at hx hy
  rw [rowsub_get hk, List.getD_eq_getElem?_getD, List.getD_eq_getElem?_getD, hx, hy]; rfl
theorem led_add {h₀ h1 h : Heap} {L ar aw : Addr} {m : Str → Option Value} {o1 o2 o3 o4 o5 oR oW : Obj} {add rest : List (Addr × Obj)} (F : Fr h₀ L h1 m) (N1 : News h₀ L h1 ((L + 1 + 1 + 1 + 1 + 1, o5) :: (L + 1 + 1 + 1 + 1, o4) :: (L + 1 + 1 + 1, o3) :: (L + 1 + 1, o2) :: (L + 1, o1) :: (ar, oR) :: (aw, oW) :: rest))
    (N : News h₀ L h ((L + 1 + 1 + 1 + 1 + 1, o5) :: (L + 1 + 1 + 1 + 1, o4) :: (L + 1 + 1 + 1, o3) :: (L + 1 + 1, o2) :: (L + 1, o1) :: (ar, oR) :: (aw, oW) :: rest)) (O : Off7 L ar aw rest) (ha : ∀ p ∈ add, h1.objs.size ≤ p.1 ∧ h.get? p.1 = some p.2) :
    News h₀ L h ((L + 1 + 1 + 1 + 1 + 1, o5) :: (L + 1 + 1 + 1 + 1, o4) :: (L + 1 + 1 + 1, o3) :: (L + 1 + 1, o2) :: (L + 1, o1) :: (ar, oR) :: (aw, oW) :: (add ++ rest)) ∧ Off7 L ar aw (add ++ rest) := by
  have z5 : L + 1 + 1 + 1 + 1 + 1 < h1.objs.size := Heap.lt_size (N1 (L + 1 + 1 + 1 + 1 + 1, o5) (.head _)).1
  have zr : ar < h1.objs.size := Heap.lt_size (N1 (ar, oR) (.tail _ (.tail _ (.tail _ (.tail _ (.tail _ (.head _))))))).1
  have zw : aw < h1.objs.size := Heap.lt_size (N1 (aw, oW) (.tail _ (.tail _ (.tail _ (.tail _ (.tail _ (.tail _ (.head _)))))))).1
  refine ⟨News.ofMem F N fun p hp => ?_, O.app fun p hp => ?_⟩
  · exact (mid_app (l := [(L + 1 + 1 + 1 + 1 + 1, o5), (L + 1 + 1 + 1 + 1, o4), (L + 1 + 1 + 1, o3), (L + 1 + 1, o2), (L + 1, o1), (ar, oR), (aw, oW)]) hp).imp_right (ha p)
  · have := (ha p hp).1
    refine ⟨Nat.lt_of_lt_of_le z5 this, Nat.ne_of_gt (Nat.lt_of_lt_of_le zr this), Nat.ne_of_gt (Nat.lt_of_lt_of_le zw this)⟩
theorem led_front {h₀ h : Heap} {L ar aw d : Addr} {o o1 o2 o3 o4 o5 oR oW : Obj} {rest : List (Addr × Obj)}
    (N : News h₀ L h ((d, o) :: (L + 1 + 1 + 1 + 1 + 1, o5) :: (L + 1 + 1 + 1 + 1, o4) :: (L + 1 + 1 + 1, o3) :: (L + 1 + 1, o2) :: (L + 1, o1) :: (ar, oR) :: (aw, oW) :: rest)) (O : Off7 L ar aw rest)
    (l : ∀ p ∈ (L + 1 + 1 + 1 + 1 + 1, o5) :: (L + 1 + 1 + 1 + 1, o4) :: (L + 1 + 1 + 1, o3) :: (L + 1 + 1, o2) :: (L + 1, o1) :: (ar, oR) :: (aw, oW) :: rest, p.1 < d) :
    News h₀ L h ((L + 1 + 1 + 1 + 1 + 1, o5) :: (L + 1 + 1 + 1 + 1, o4) :: (L + 1 + 1 + 1, o3) :: (L + 1 + 1, o2) :: (L + 1, o1) :: (ar, oR) :: (aw, oW) :: (d, o) :: rest) ∧ Off7 L ar aw ((d, o) :: rest) := by
  refine ⟨News.sub N fun p hp => mid_front (l := [(L + 1 + 1 + 1 + 1 + 1, o5), (L + 1 + 1 + 1 + 1, o4), (L + 1 + 1 + 1, o3), (L + 1 + 1, o2), (L + 1, o1), (ar, oR), (aw, oW)]) hp, O.cons ?_ ?_ ?_⟩
  · exact l (L + 1 + 1 + 1 + 1 + 1, o5) (.head _)
  · exact Nat.ne_of_gt (l (ar, oR) (.tail _ (.tail _ (.tail _ (.tail _ (.tail _ (.head _)))))))
  · exact Nat.ne_of_gt (l (aw, oW) (.tail _ (.tail _ (.tail _ (.tail _ (.tail _ (.tail _ (.head _))))))))
theorem LP.stay {L as' ap c taken tk ar aw aq kr kw kq n x y d tk' : Nat} {t : Tok} {ss : List Int} {news0 nw tl tl2 wl rest : List (Addr × Obj)} {m m' : Str → Option Value} {o1 o2 o3 o4 o5 : Obj} {l : List (Nat × Nat)} {rs : List Nat} {ws : List (List Int)} {q : List (Nat × Nat)}
    (P : LP L as' ap c t ss news0 m nw tk taken o1 o2 o3 o4 o5 ar aw aq kr kw kq l ws wl tl q rest) (hrs : l.map (·.1) = rs) (hq : q[n]? = some (x, y)) (hd : max (rs.getD x 0) (rs.getD y 0) - min (rs.getD x 0) (rs.getD y 0) ∈ rs) (ht : ∀ p ∈ tl2, p ∈ tl) (hT : TupsAre tl2 (q.take n ++ q.drop (n + 1)))
    (O : Off7 L ar aw ((d, listOf (refs tl2) 0) :: rest)) (wm : m' "waiting" = some (Value.ref d)) (tm : HI m' "taken" (((taken : Nat) : Int) + 1)) (sm : m' "sign" = some (Value.str (S [c]) t)) (pm : m' "picks" = some (Value.ref ap)) (htk : tk ≤ tk') :
    LJ L as' ap c t ss news0 (200 - (taken + 1)) m' ((L + 1 + 1 + 1 + 1 + 1, o5) :: (L + 1 + 1 + 1 + 1, o4) :: (L + 1 + 1 + 1, o3) :: (L + 1 + 1, o2) :: (L + 1, o1) :: (ar, listOf (runArr l) kr) :: (aw, listOf (refs wl) kw) :: (d, listOf (refs tl2) 0) :: rest) tk' := by
  subst hrs
  have up : ∀ p, p ∈ rest → p ∈ (d, listOf (refs tl2) 0) :: rest := fun p hp => List.mem_cons_of_mem _ hp
  exact .mk (taken := taken + 1) (aq := d) (kq := 0) (tl := tl2) ⟨rfl, P.d1, P.d2, P.d3, P.d4, P.d5, wm, by rw [Int.natCast_add]; exact tm, sm, pm, O, fun p hp => up p (P.news p hp), List.mem_cons_self, fun p hp => up p (P.tlm p (ht p hp)), hT, fun p hp => ⟨up p (P.wlm p hp).1, (P.wlm p hp).2⟩, P.rows, fun p hp => ⟨(P.run p hp).1, Nat.lt_of_lt_of_le (P.run p hp).2 htk⟩, Nat.le_trans P.tk1 htk, P.inv.stay hq hd⟩
theorem RowsAre.snoc {wl : List (Addr × Obj)} {ws : List (List Int)} (h : RowsAre wl ws) {p : Addr × Obj} {its : Array Value} {kk : Nat} {row : List Int} (hp : p.2 = listOf its kk) (hI : Ints its row) : RowsAre (wl ++ [p]) (ws ++ [row]) := by
  refine ⟨by rw [List.length_append, List.length_append, h.1]; rfl, fun n r hn => ?_⟩
  by_cases hl : n < ws.length
  · rw [List.getElem?_append_left hl] at hn
    obtain ⟨p', its', kk', a, b, c⟩ := h.2 n r hn
    exact ⟨p', its', kk', by rw [List.getElem?_append_left (by rw [h.1]; exact hl)]; exact a, b, c⟩
  · rw [List.getElem?_append_right (by omega)] at hn
    have hn0 : n - ws.length = 0 := by
      have := (List.getElem?_eq_some_iff.mp hn).1
      simp at this; omega
    rw [hn0] at hn
    cases hn
    exact ⟨p, its, kk, by rw [List.getElem?_append_right (by rw [h.1]; omega), h.1, hn0]; rfl, hp, hI⟩
theorem LP.grow {L as' ap c taken tk ar aw aq kr kw kq n x y dq tk' td kr' kw' kq' : Nat} {t : Tok} {ss : List Int} {news0 nw tl tl2 tl3 wl rest rest2 : List (Addr × Obj)} {m m' : Str → Option Value} {o1 o2 o3 o4 o5 o4' o5' : Obj} {l : List (Nat × Nat)} {rs : List Nat} {ws : List (List Int)} {q : List (Nat × Nat)} {wn : Addr × Obj} {its : Array Value} {kk : Nat}
    (P : LP L as' ap c t ss news0 m nw tk taken o1 o2 o3 o4 o5 ar aw aq kr kw kq l ws wl tl q rest) (hrs : l.map (·.1) = rs) (hq : q[n]? = some (x, y)) (hd : max (rs.getD x 0) (rs.getD y 0) - min (rs.getD x 0) (rs.getD y 0) ∉ rs) (ht : ∀ p ∈ tl2, p ∈ tl) (hT : TupsAre tl2 (q.take n ++ q.drop (n + 1)))
    (hT3 : TupsAre tl3 ((List.range rs.length).map fun k => (k, rs.length))) (d4 : ∃ v, o4'.data = Data.cell v) (d5 : ∃ v, o5'.data = Data.cell v) (hw : wn.2 = listOf its kk) (hI : Ints its (newRow ss rs ws x y)) (up : ∀ p ∈ rest, p ∈ rest2) (hdq : (dq, listOf (refs (tl2 ++ tl3)) kq') ∈ rest2) (hwm : wn ∈ rest2 ∧ L < wn.1) (ht3 : ∀ p ∈ tl3, p ∈ rest2)
    (O : Off7 L ar aw rest2) (wm : m' "waiting" = some (Value.ref dq)) (tm : HI m' "taken" (((taken : Nat) : Int) + 1)) (sm : m' "sign" = some (Value.str (S [c]) t)) (pm : m' "picks" = some (Value.ref ap)) (htd : tk ≤ td) (htk : td < tk') :
    LJ L as' ap c t ss news0 (200 - (taken + 1)) m' ((L + 1 + 1 + 1 + 1 + 1, o5') :: (L + 1 + 1 + 1 + 1, o4') :: (L + 1 + 1 + 1, o3) :: (L + 1 + 1, o2) :: (L + 1, o1) :: (ar, listOf (runArr (l ++ [(max (rs.getD x 0) (rs.getD y 0) - min (rs.getD x 0) (rs.getD y 0), td)])) kr') :: (aw, listOf (refs (wl ++ [wn])) kw') :: rest2) tk' := by
  subst hrs
  refine .mk (taken := taken + 1) (aq := dq) (kq := kq') (ws := ws ++ [newRow ss (l.map (·.1)) ws x y]) (wl := wl ++ [wn]) (tl := tl2 ++ tl3) (rest := rest2) ⟨rfl, P.d1, P.d2, P.d3, d4, d5, wm, by rw [Int.natCast_add]; exact tm, sm, pm, O, fun p hp => up p (P.news p hp), hdq, ?_, hT.app hT3, ?_, P.rows.snoc hw hI, ?_, ?_, ?_⟩
  · intro p hp
    rcases List.mem_append.mp hp with hp | hp
    · exact up p (P.tlm p (ht p hp))
    · exact ht3 p hp
  · intro p hp
    rcases List.mem_append.mp hp with hp | hp
    · exact ⟨up p (P.wlm p hp).1, (P.wlm p hp).2⟩
    · rw [List.mem_singleton.mp hp]; exact hwm
  · intro p hp
    rcases List.mem_append.mp hp with hp | hp
    · exact ⟨(P.run p hp).1, Nat.lt_of_lt_of_le (P.run p hp).2 (Nat.le_trans htd (Nat.le_of_lt htk))⟩
    · rw [List.mem_singleton.mp hp]
      exact ⟨Nat.ne_of_gt (Nat.lt_of_lt_of_le P.tk1 htd), htk⟩
  · exact Nat.le_trans P.tk1 (Nat.le_trans htd (Nat.le_of_lt htk))
  · rw [List.map_append]
    exact P.inv.grow hq hd
theorem hV_of {ysV : List Value} {row A B : List Int} {n : Nat} (hrow : row = rowsub A B n) (hJ : IntsL ysV ((rowsub A B n).take n)) : Ints ysV.toArray row := by
  rw [List.take_of_length_le (by rw [rowsub_len]; exact Nat.le_refl _)] at hJ
  rw [hrow]; exact hJ.ints
theorem News.upd {h₀ h h' : Heap} {L d : Addr} {o o' : Obj} {A : List (Addr × Obj)} {g : Obj → List (Addr × Obj)} (U : UpdF d o A g) (N : News h₀ L h A) (sb : Heap.SameBut d h h') (ho : h'.get? d = some o') : News h₀ L h' (g o') := by
  obtain ⟨pre, post, rfl, hg, a, b⟩ := U.split
  rw [hg]; exact News.setIn N a b sb ho
theorem Fr.upd {h₀ h h' : Heap} {L d : Addr} {o : Obj} {m : Str → Option Value} (F : Fr h₀ L h m) (hd : h.get? d = some o ∧ d ≠ L ∧ h₀.get? d = none) (sb : Heap.SameBut d h h') : Fr h₀ L h' m := by
  refine ⟨F.ns.sameBut sb (Ne.symm hd.2.1), fun b o' e => sb.extBut b o' (fun q => ?_) (F.keep b o' e), F.above⟩
  rw [q, hd.2.2] at e; exact nomatch e
section
variable {prog : Program} {w : World} {A : Around} {E : Value → Shared → Prop} {s : Shared} {h₀ : Heap} {L ar aw : Addr} {m : Str → Option Value} {Q : Value → Shared → Prop} {o1 o2 o3 o4 o5 oR oW : Obj} {rest : List (Addr × Obj)}
theorem app_runs {l : List (Nat × Nat)} {kr d t : Nat} (F : Fr h₀ L s.heap m) (N : News h₀ L s.heap ((L + 1 + 1 + 1 + 1 + 1, o5) :: (L + 1 + 1 + 1 + 1, o4) :: (L + 1 + 1 + 1, o3) :: (L + 1 + 1, o2) :: (L + 1, o1) :: (ar, listOf (runArr l) kr) :: (aw, oW) :: rest)) (O : Off7 L ar aw rest) (hz : l.length ≤ 10000)
    (h : ∀ h', Fr h₀ L h' m → News h₀ L h' ((L + 1 + 1 + 1 + 1 + 1, o5) :: (L + 1 + 1 + 1 + 1, o4) :: (L + 1 + 1 + 1, o3) :: (L + 1 + 1, o2) :: (L + 1, o1) :: (ar, listOf (runArr (l ++ [(d, t)])) (kr + 1)) :: (aw, oW) :: rest) → Q .none { s with heap := h' }) :
    wpAny (model prog w) A (call (.builtin "list.append") [.ref ar, .str (S (rep d)) t]) Q E s := by
  have hr := N (ar, listOf (runArr l) kr) (by simp)
  have e : runArr (l ++ [(d, t)]) = (runArr l).push (.str (S (rep d)) t) := by simp [runArr]
  refine append_at hr.1 (fun h' sb ho => h h' (Fr.upd F hr sb) (News.upd (updR O) N sb (by rw [e]; exact ho))) (by rw [runArr_size, sizeLine_eq]; omega)
theorem app_ways {wl : List (Addr × Obj)} {kw : Nat} {p : Addr × Obj} (F : Fr h₀ L s.heap m) (N : News h₀ L s.heap ((L + 1 + 1 + 1 + 1 + 1, o5) :: (L + 1 + 1 + 1 + 1, o4) :: (L + 1 + 1 + 1, o3) :: (L + 1 + 1, o2) :: (L + 1, o1) :: (ar, oR) :: (aw, listOf (refs wl) kw) :: rest)) (O : Off7 L ar aw rest) (hz : wl.length ≤ 10000)
    (h : ∀ h', Fr h₀ L h' m → News h₀ L h' ((L + 1 + 1 + 1 + 1 + 1, o5) :: (L + 1 + 1 + 1 + 1, o4) :: (L + 1 + 1 + 1, o3) :: (L + 1 + 1, o2) :: (L + 1, o1) :: (ar, oR) :: (aw, listOf (refs (wl ++ [p])) (kw + 1)) :: rest) → Q .none { s with heap := h' }) :
    wpAny (model prog w) A (call (.builtin "list.append") [.ref aw, .ref p.1]) Q E s := by
  have hr := N (aw, listOf (refs wl) kw) (by simp)
  have e : refs (wl ++ [p]) = (refs wl).push (.ref p.1) := by simp [refs]
  refine append_at hr.1 (fun h' sb ho => h h' (Fr.upd F hr sb) (News.upd (updW O) N sb (by rw [e]; exact ho))) (by rw [refs_size, sizeLine_eq]; omega)
end
theorem lt200 {taken q : Nat} (h : q + taken ≤ 153) : 200 - (taken + 1) < 200 - taken := by omega
/-- what the closure hands back -/
inductive ROut (ss : List Int) : Value → List (Addr × Obj) → Prop where
  | mk {D ar aw : Addr} {kr kw : Nat} {l : List (Nat × Nat)} {ws : List (List Int)} {wl : List (Addr × Obj)} {taken : Nat} : RowsAre wl ws → CInv ss (l.map (·.1)) ws [] taken →
    ROut ss (Value.ref D) ((D, ({ cls := .type "tuple", data := .seq #[.ref ar, .ref aw] } : Obj)) :: (ar, listOf (runArr l) kr) :: (aw, listOf (refs wl) kw) :: wl)
theorem fin_out {h₀ h : Heap} {L0 : Addr} {L as' ap c taken tk ar aw aq kr kw kq : Nat} {D : Addr} {t : Tok} {ss : List Int} {news0 nw tl wl rest : List (Addr × Obj)} {m : Str → Option Value} {o1 o2 o3 o4 o5 oD : Obj} {e : Addr × Obj} {l : List (Nat × Nat)} {ws : List (List Int)} {q : List (Nat × Nat)}
    (N : News h₀ L0 h ((D, oD) :: e :: (L + 1 + 1 + 1 + 1 + 1, o5) :: (L + 1 + 1 + 1 + 1, o4) :: (L + 1 + 1 + 1, o3) :: (L + 1 + 1, o2) :: (L + 1, o1) :: (ar, listOf (runArr l) kr) :: (aw, listOf (refs wl) kw) :: rest))
    (P : LP L as' ap c t ss news0 m nw tk taken o1 o2 o3 o4 o5 ar aw aq kr kw kq l ws wl tl q rest) (hn : ∀ p ∈ news0, p.1 < L) (hD : L + 1 < D) :
    News h₀ L0 h (((D, oD) :: (ar, listOf (runArr l) kr) :: (aw, listOf (refs wl) kw) :: wl) ++ news0) ∧ ∀ x ∈ (D, oD) :: (ar, listOf (runArr l) kr) :: (aw, listOf (refs wl) kw) :: wl, ∀ p ∈ news0, p.1 ≠ x.1 := by
  refine ⟨News.sub N fun p hp => ?_, fun x hx p hp => ?_⟩
  · simp only [List.cons_append, List.mem_cons, List.mem_append] at hp ⊢
    rcases hp with h | h | h | h | h
    · simp [h]
    · simp [h]
    · simp [h]
    · simp [(P.wlm p h).1]
    · simp [P.news p h]
  · have h1 := hn p hp
    have h2 : L < x.1 := by
      rcases List.mem_cons.mp hx with rfl | hx
      · exact Nat.lt_trans (Nat.lt_succ_self _) hD
      · rcases List.mem_cons.mp hx with rfl | hx
        · exact Nat.lt_of_le_of_lt (Nat.le_add_right _ 5) P.off.1.1
        · rcases List.mem_cons.mp hx with rfl | hx
          · exact Nat.lt_of_le_of_lt (Nat.le_add_right _ 5) P.off.1.2.1
          · exact (P.wlm x hx).2
    exact Nat.ne_of_lt (Nat.lt_trans h1 h2)
/-- the two cells hold the longer run's place and the shorter one's -/
abbrev CellsXY {q : List (Nat × Nat)} {n X Y : Nat} (_ : q[n]? = some (X, Y)) (ss : List Int) (rs : List Nat) (ws : List (List Int)) (o4 o5 : Obj) : Prop :=
  ∃ (LO SH : Nat) (t4 t5 : Tok), newRow ss rs ws X Y = rowsub (ws.getD LO []) (ws.getD SH []) ss.length ∧ (ws.getD LO []).length = ss.length ∧ (ws.getD SH []).length = ss.length ∧ LO < ws.length ∧ SH < ws.length ∧ o4.data = Data.cell (some (.int (LO : Int) t4)) ∧ o5.data = Data.cell (some (.int (SH : Int) t5))
/-- where two branches meet: the same frame, the two cells of the pair told by X -/
def JStep (h₀ : Heap) (L a4 a5 : Addr) (m : Str → Option Value) (r0 : List (Addr × Obj)) (l : List Nat) (X : Obj → Obj → Prop) (s : Shared) (f : Flow) (s₃ : Shared) : Prop :=
  f = .next ∧ ∃ h' tk o4 o5, s₃ = { s with heap := h', toks := tk } ∧ Fr h₀ L h' m ∧ News h₀ L h' ((a5, o5) :: (a4, o4) :: r0) ∧ Tks l tk ∧ X o4 o5
theorem jstep_of {h₀ h' : Heap} {L a4 a5 : Addr} {m : Str → Option Value} {r0 : List (Addr × Obj)} {l : List Nat} {X : Obj → Obj → Prop} {s : Shared} {tk : Nat} {o4 o5 : Obj} (F : Fr h₀ L h' m) (N : News h₀ L h' ((a5, o5) :: (a4, o4) :: r0)) (T : Tks l tk) (x : X o4 o5) :
    JStep h₀ L a4 a5 m r0 l X s .next { s with heap := h', toks := tk } := ⟨rfl, _, _, _, _, rfl, F, N, T, x⟩
theorem cons_join {prog : Program} {w : World} {A : Around} {E : Value → Shared → Prop} {Q : Flow → Shared → Prop} {env : Env} {h₀ h : Heap} {L a4 a5 : Addr} {m : Str → Option Value} {r0 : List (Addr × Obj)} {o4 o5 : Obj} (l : List Nat) {g : Array GenState} {d : Drawn} {tk : Nat} {os : OsState} {st : Stmt} {rest : List Stmt} (X : Obj → Obj → Prop)
    (_ : Fr h₀ L h m) (_ : News h₀ L h ((a5, o5) :: (a4, o4) :: r0))
    (h1 : ∀ E' : Value → Shared → Prop, wpAny (model prog w) A (exec st env) (JStep h₀ L a4 a5 m r0 l X ⟨h, g, d, tk, os⟩) E' ⟨h, g, d, tk, os⟩)
    (h2 : ∀ h' tk' o4' o5', Fr h₀ L h' m → News h₀ L h' ((a5, o5') :: (a4, o4') :: r0) → Tks l tk' → X o4' o5' → wpAny (model prog w) A (execs rest env) Q E ⟨h', g, d, tk', os⟩) :
    wpAny (model prog w) A (execs (st :: rest) env) Q E ⟨h, g, d, tk, os⟩ := by
  refine wpAny_execs_cons (wpAny_mono (h1 E) (fun f s' H => ?_) fun _ _ e => e)
  obtain ⟨rfl, h', tk', o4', o5', rfl, F, N, T, x⟩ := H
  exact h2 _ _ _ _ F N T x
end Mine

-- part Sub
namespace Mine
set_option maxRecDepth 100000
set_option maxHeartbeats 8000000
local macro_rules | `(tactic| walk_at $s:str) => `(tactic| k_extra $(Lean.Syntax.mkStrLit ("MY@" ++ s.getString)))
theorem words_Sub : True := by
  k_with_none
  k_with "MY@MY tk" => with_reducible (first | assumption | exact Tks.add (by assumption) | exact Tks.add (Tks.add (by assumption)) | exact Tks.add (Tks.add (Tks.add (by assumption))) | exact Tks.add (Tks.add (Tks.add (Tks.add (by assumption)))) | exact Tks.add (Tks.add (Tks.add (Tks.add (Tks.add (by assumption))))) | exact Tks.add (Tks.add (Tks.add (Tks.add (Tks.add (Tks.add (by assumption)))))) | exact Tks.add (Tks.add (Tks.add (Tks.add (Tks.add (Tks.add (Tks.add (by assumption))))))) | exact Tks.add (Tks.add (Tks.add (Tks.add (Tks.add (Tks.add (Tks.add (Tks.add (by assumption)))))))) | exact Tks.add (Tks.add (Tks.add (Tks.add (Tks.add (Tks.add (Tks.add (Tks.add (Tks.add (by assumption))))))))) | exact Tks.add (Tks.add (Tks.add (Tks.add (Tks.add (Tks.add (Tks.add (Tks.add (Tks.add (Tks.add (by assumption)))))))))) | exact Tks.add (Tks.add (Tks.add (Tks.add (Tks.add (Tks.add (Tks.add (Tks.add (Tks.add (Tks.add (Tks.add (by assumption))))))))))) | exact Tks.add (Tks.add (Tks.add (Tks.add (Tks.add (Tks.add (Tks.add (Tks.add (Tks.add (Tks.add (Tks.add (Tks.add (by assumption)))))))))))) | exact Tks.add (Tks.add (Tks.add (Tks.add (Tks.add (Tks.add (Tks.add (Tks.add (Tks.add (Tks.add (Tks.add (Tks.add (Tks.add (by assumption))))))))))))) | exact Tks.add (Tks.add (Tks.add (Tks.add (Tks.add (Tks.add (Tks.add (Tks.add (Tks.add (Tks.add (Tks.add (Tks.add (Tks.add (Tks.add (by assumption)))))))))))))) | exact Tks.add (Tks.add (Tks.add (Tks.add (Tks.add (Tks.add (Tks.add (Tks.add (Tks.add (Tks.add (Tks.add (Tks.add (Tks.add (Tks.add (Tks.add (by assumption))))))))))))))) | exact Tks.add (Tks.add (Tks.add (Tks.add (Tks.add (Tks.add (Tks.add (Tks.add (Tks.add (Tks.add (Tks.add (Tks.add (Tks.add (Tks.add (Tks.add (Tks.add (by assumption)))))))))))))))) | exact Tks.add (Tks.add (Tks.add (Tks.add (Tks.add (Tks.add (Tks.add (Tks.add (Tks.add (Tks.add (Tks.add (Tks.add (Tks.add (Tks.add (Tks.add (Tks.add (Tks.add (by assumption))))))))))))))))) | exact Tks.add (Tks.add (Tks.add (Tks.add (Tks.add (Tks.add (Tks.add (Tks.add (Tks.add (Tks.add (Tks.add (Tks.add (Tks.add (Tks.add (Tks.add (Tks.add (Tks.add (Tks.add (by assumption)))))))))))))))))) | exact Tks.add (Tks.add (Tks.add (Tks.add (Tks.add (Tks.add (Tks.add (Tks.add (Tks.add (Tks.add (Tks.add (Tks.add (Tks.add (Tks.add (Tks.add (Tks.add (Tks.add (Tks.add (Tks.add (by assumption))))))))))))))))))) | exact Tks.add (Tks.add (Tks.add (Tks.add (Tks.add (Tks.add (Tks.add (Tks.add (Tks.add (Tks.add (Tks.add (Tks.add (Tks.add (Tks.add (Tks.add (Tks.add (Tks.add (Tks.add (Tks.add (Tks.add (by assumption)))))))))))))))))))) | exact Tks.add (Tks.add (Tks.add (Tks.add (Tks.add (Tks.add (Tks.add (Tks.add (Tks.add (Tks.add (Tks.add (Tks.add (Tks.add (Tks.add (Tks.add (Tks.add (Tks.add (Tks.add (Tks.add (Tks.add (Tks.add (by assumption))))))))))))))))))))) | exact Tks.add (Tks.add (Tks.add (Tks.add (Tks.add (Tks.add (Tks.add (Tks.add (Tks.add (Tks.add (Tks.add (Tks.add (Tks.add (Tks.add (Tks.add (Tks.add (Tks.add (Tks.add (Tks.add (Tks.add (Tks.add (Tks.add (by assumption)))))))))))))))))))))) | exact Tks.add (Tks.add (Tks.add (Tks.add (Tks.add (Tks.add (Tks.add (Tks.add (Tks.add (Tks.add (Tks.add (Tks.add (Tks.add (Tks.add (Tks.add (Tks.add (Tks.add (Tks.add (Tks.add (Tks.add (Tks.add (Tks.add (Tks.add (by assumption))))))))))))))))))))))) | exact Tks.add (Tks.add (Tks.add (Tks.add (Tks.add (Tks.add (Tks.add (Tks.add (Tks.add (Tks.add (Tks.add (Tks.add (Tks.add (Tks.add (Tks.add (Tks.add (Tks.add (Tks.add (Tks.add (Tks.add (Tks.add (Tks.add (Tks.add (Tks.add (by assumption)))))))))))))))))))))))))
  k_with "MY@MY lit" => first | with_reducible rfl | exact lit257 | exact litSpQ | exact litQ | exact litE | exact lit257Q | exact litLies
  k_with "MY@MY len" => first | assumption | (simp only [List.length_append, List.length_cons, List.length_nil, List.length_replicate, rep] at *; omega)
  k_with "MY@MY int" => first | decide | omega
  k_with "MY@subscriptTail Name Slice str ref" => (k_here; (with_reducible show wpAny _ _ (subscriptTail _ _ (Value.str (S _) _) (Value.ref _)) _ _ _); (refine' with_k (by walk_at "MY tk") ?_); k_dflt (first | (refine' sub_from (s := ⟨_, _, _, _, _⟩) (by k_asm) (by k_asm) (by walk_at "MY len") (by walk_at "MY int") _ (by walk_at "MY cut") ?_) | (refine' sub_to (s := ⟨_, _, _, _, _⟩) (by k_asm) (by k_asm) (by walk_at "MY len") (by walk_at "MY int") _ (by walk_at "MY cut") ?_) | (refine' sub_to_neg (s := ⟨_, _, _, _, _⟩) (by k_asm) (by k_asm) (by walk_at "MY len") (by walk_at "MY int") _ (by walk_at "MY cut") ?_) | (refine' sub_all (s := ⟨_, _, _, _, _⟩) (by k_asm) (by k_asm) (by walk_at "MY len") ?_) | (refine' sub_run (s := ⟨_, _, _, _, _⟩) (by k_asm) (by k_asm) (by walk_at "MY len") (by walk_at "MY int") (by walk_at "MY int") (by walk_at "MY len") _ (by walk_at "MY cut") ?_)); intro _ _ _ _ _ hT9_k9; (try dsimp only at hT9_k9); (try dsimp only))
  k_with "MY@subscriptTail Name Name str int" => (k_here; (with_reducible show wpAny _ _ (subscriptTail _ _ (Value.str (S _) _) (Value.int _ _)) _ _ _); k_dflt (refine' sub_item (by walk_at "MY len") (by walk_at "MY len") (by walk_at "MY len") _ (by walk_at "MY item") ?_); (try dsimp only))
  k_with "MY@subscriptTail Name BinOp str int" => (k_here; (with_reducible show wpAny _ _ (subscriptTail _ _ (Value.str (S _) _) (Value.int _ _)) _ _ _); k_dflt (refine' sub_item (by walk_at "MY len") (by walk_at "MY len") (by walk_at "MY len") _ (by walk_at "MY item") ?_); (try dsimp only))
  k_with "MY@compareOp NotEq str str" => (k_here; k_dflt (first | (refine' ne_no' (by walk_at "MY lit") (by walk_at "MY lit") (by first | rfl | walk_at "MY eq") ?_) | (refine' ne_yes' (by walk_at "MY lit") (by walk_at "MY lit") (by first | decide | walk_at "MY ne") ?_)); (try dsimp only))
  k_with "MY@compareOp Eq str str" => (k_here; k_dflt (first | (refine' eq_yes' (by walk_at "MY lit") (by walk_at "MY lit") (by first | rfl | walk_at "MY eq") ?_) | (refine' eq_no' (by walk_at "MY lit") (by walk_at "MY lit") (by first | decide | walk_at "MY ne") ?_)); (try dsimp only))
  k_with "MY@call builtin:len" => (k_here; k_dflt (refine len_S (by walk_at "MY len") ?_); (try dsimp only))
  k_with "MY@binaryOp Add str str" => (k_here; (refine' with_k (by walk_at "MY tk") ?_); k_dflt (refine' add_S' (by walk_at "MY lit") (by walk_at "MY lit") (by walk_at "MY len") ?_); intro t9_k9 k9_k9 hT9_k9; (try dsimp only at hT9_k9); (try dsimp only))
  k_with "MY@MY free" => ((fail_if_success (with_reducible show wpAny _ _ (call (Value.ref 109) _) _ _ _)); (fail_if_success (with_reducible show wpAny _ _ (call (Value.ref 88) _) _ _ _)); (fail_if_success (with_reducible show wpAny _ _ (exec (Stmt.For _ _ _ _ _) _) _ _ _)); (fail_if_success (with_reducible show wpAny _ _ (exec (Stmt.While _ _ _ _) _) _ _ _)); (fail_if_success (with_reducible show FStep _ _ _ _ _ _ _ _ _)); (fail_if_success (with_reducible show wpAny _ _ (pyIter _) _ _ _)); (fail_if_success (with_reducible show Exists _)); (fail_if_success (with_reducible show Fr _ _ _ _ ∧ _)); (fail_if_success (with_reducible show Keeps _ _ ∧ _)); (fail_if_success (with_reducible show WStep _ _ _ _ _ _ _ _)); (fail_if_success (with_reducible show wpAny _ _ (exec (Stmt.Assign _ (Expr.ListComp _ _ _ _) _) _) _ _ _)); (fail_if_success (with_reducible show wpAny _ _ (eval (Expr.ListComp _ _ _ _) _) _ _ _)))
  k_with "MY@MY steps" => repeat' (first | (k_unfold; (try dsimp only)) | (k_end; wrow_close) | (walk_at "MY free"; first | walk1 | (dsimp only; walk1) | (leave1; walk_say "STEP leave1"; try dsimp only)) | fail "no step")
  k_with "MY@MY cut" => with_reducible rfl
  k_with "MY@truthy str" => (k_here; k_dflt (first | (refine truthy_S (by walk_at "MY len") true (by refine decide_eq_true ?_; walk_at "MY full") ?_) | (refine truthy_S (by walk_at "MY len") false (by refine decide_eq_false ?_; refine not_not_intro ?_; walk_at "MY empty") ?_)); (try dsimp only))
  k_with "MY@execs cons" => (k_here; (refine' execs_cons_k (by walk_at "MY tk") ?_); intro tk_q_k9 hT9_k9; (try dsimp only at hT9_k9))
  k_with "MY@execs nil" => (k_here; refine wpAny_execs_nil ?_)
  k_with "MY@execs cons Assign cons" => (k_here; (refine' execs_cons_k (by walk_at "MY tk") ?_); intro tk_q_k9 hT9_k9; (try dsimp only at hT9_k9))
  k_with "MY@MY hd" => ((try dsimp only); first | exact Tks.hd (by assumption) | exact Tks.hd (Tks.add (by assumption)) | exact Tks.hd (Tks.add (Tks.add (by assumption))) | exact Tks.hd (Tks.add (Tks.add (Tks.add (by assumption)))))
  k_with "MY@MY mem" => first | assumption | exact List.Mem.head _ | (refine' List.Mem.tail _ ?_; walk_at "MY mem") | (refine' List.mem_append_right _ ?_; walk_at "MY mem")
  k_with "MY@MY list" => exact isList_of (by k_asm) (by walk_at "MY mem")
  k_with "MY@MY size" => first | assumption | with_reducible rfl
  k_with "MY@MY fits" => omega
  k_with "MY@MY get" => first | assumption
  k_with "MY@call builtin:len" => (k_here; (with_reducible show wpAny _ _ (call (Value.builtin "len") [Value.ref _]) _ _ _); k_dflt (refine' len_l (by walk_at "MY list") (by walk_at "MY size") (by walk_at "MY fits") ?_); (try dsimp only))
  k_with "MY@subscriptTail Name Name ref int" => (k_here; (with_reducible show wpAny _ _ (subscriptTail _ _ (Value.ref _) (Value.int _ _)) _ _ _); k_dflt (refine' item_l (by walk_at "MY list") (by omega) (by omega) (by walk_at "MY get") ?_); (try dsimp only))
  k_with "MY@call type:range" => (k_here; (with_reducible show wpAny _ _ (call _ [Value.int _ _]) _ _ _); (refine' with_k (by walk_at "MY tk") ?_); k_dflt (refine' range1_rows (by k_asm) (by k_asm) ?_); intro h9_k9 tk9_k9 t9_k9 u9_k9 v9_k9 hR9_k9 F9_k9 N9_k9 K9_k9 hT9_k9; (try dsimp only at hT9_k9 ⊢))
  k_with "MY@MY room" => (first | omega | ktr_room | k_room)
  k_with "MY@MY units" => (first | omega | ktr_units)
  k_with "MY@MY enter" => (refine' code_def ?k1_z8 ?k2_z8 ?k3_z8 ?k4_z8 ?k5_z8 ?kA_z8 ?kF_z8 ?kK_z8 ?k6_z8 ?k7_z8 ?k8_z8 ?k9_z8 ?kB_z8 ?_ ?c2_z8 ?c3_z8 ?c4_z8 ?c5_z8; (case kA_z8 => exact rfl); (case kF_z8 => exact rfl); (case kK_z8 => first | exact rfl | assumption); (case k1_z8 => k_asm); (case k2_z8 => k_asm); (case k3_z8 => k_asm); (case k4_z8 => k_asm); (case k5_z8 => k_asm); (case k6_z8 => k_is); (case k7_z8 => k_is); (case k8_z8 => walk_at "MY room"); (case k9_z8 => exact BindsTo.of_eq rfl); (case c5_z8 => decide); (case kB_z8 => exact locs rfl); (case c2_z8 => exact rfl); (case c3_z8 => exact rfl); (case c4_z8 => exact rfl); k_whole; intro g_q_k9 L_q_k9 h_q_k9 FG_q_k9 F_q_k9 N_q_k9 B_q_k9 X_q_k9 T_q_k9; (try dsimp only); (try k_lift B_q_k9); (try k_fold))
  k_with "MY@call ref" => (k_here; (with_reducible first | show wpAny _ _ (call (Value.ref 81) _) _ _ _ | show wpAny _ _ (call (Value.ref 53) _) _ _ _ | show wpAny _ _ (call (Value.ref 60) _) _ _ _ | show wpAny _ _ (call (Value.ref 67) _) _ _ _ | show wpAny _ _ (call (Value.ref 74) _) _ _ _); refine wpAny_call ?_; k_dflt walk_at "MY enter")
  k_with "MY@binaryOp Mod int int" => (k_here; k_dflt (refine' mod_em (by omega) ?_); intro r9_k9 hr9_k9 h09_k9 h19_k9; (try dsimp only))
  k_with "MY@MY memr" => with_reducible (first | assumption | exact List.mem_cons_self | (refine List.mem_cons_of_mem _ ?_; walk_at "MY memr") | (refine List.mem_append_right _ ?_; walk_at "MY memr"))
  k_with "MY@MY litem" => (k_here; (with_reducible show wpAny _ _ (subscriptTail _ _ (Value.ref _) (Value.int _ _)) _ _ _); k_dflt (first
  | (refine' it_tups (by k_asm) (by walk_at "MY memr") (by with_reducible assumption) (by assumption) (by assumption) (by omega) (by omega) (by omega) ?_; intro b9_k9 x9_k9 y9_k9 t9_k9 u9_k9 n9_k9 hx9_k9 hl9_k9 hk9_k9 hn9_k9 hm9_k9)
  | (with_reducible refine' it_runs (by k_asm) (by walk_at "MY memr") (by assumption) (by omega) (by omega) ?_ (by with_unfolding_all rfl); intro t9_k9 hp9_k9)
  | (with_reducible refine' it_ways (by k_asm) (by walk_at "MY memr") (by assumption) (by assumption) (by omega) (by omega) ?_ (by with_unfolding_all rfl); intro b9_k9 its9_k9 kk9_k9 hm9_k9 hI9_k9)
  | (refine' it_ints (by k_asm) (by walk_at "MY memr") (by with_reducible assumption) (by omega) (by omega) (by omega) ?_; intro x9_k9 t9_k9 hx9_k9)); (try dsimp only))
  k_with "MY@subscriptTail Name Name ref int" => walk_at "MY litem"
  k_with "MY@subscriptTail Name BinOp ref int" => walk_at "MY litem"
  k_with "MY@subscriptTail Subscript Name ref int" => walk_at "MY litem"
  k_with "MY@assign Tuple" => (k_here; (with_reducible show wpAny _ _ (assign (Expr.Tuple _ _ _) _ (Value.ref _)) _ _ _); k_dflt (refine' unpackN_ (by k_asm) (by k_asm) (by exact News.isTup (by k_asm) (by walk_at "MY mem")) (by exact rfl) (by exact rfl) (by exact rfl) ?_); intro h9_k9 F9_k9 N9_k9; (try dsimp only))
  k_with "MY@subscriptTail" => (k_here; (with_reducible show wpAny _ _ (subscriptTail _ _ (Value.ref _) (Value.ref _)) _ _ _); (try dsimp only); k_dflt (first
  | (refine' sl_to (s := ⟨_, _, _, _, _⟩) (by k_asm) (by k_asm) (by walk_at "MY mem") (by omega) (by omega) (by omega) ?_)
  | (refine' sl_from (s := ⟨_, _, _, _, _⟩) (by k_asm) (by k_asm) (by walk_at "MY mem") (by omega) (by omega) (by omega) ?_)); intro d9_k9 h9_k9 F9_k9 N9_k9 l9_k9; (try dsimp only))
  k_with "MY@binaryOp Add ref ref" => (k_here; k_dflt (refine' add_refs (by k_asm) (by k_asm) (by walk_at "MY mem") (by walk_at "MY mem") (by first | omega | (simp only [List.length_append, List.length_take, List.length_drop] at *; omega)) ?_); intro d9_k9 h9_k9 F9_k9 N9_k9 l9_k9; (try dsimp only))
  k_with "MY@call builtin:hasattr" => (k_here; (refine' with_k (by walk_at "MY tk") ?_); k_dflt (refine' has_listN (by k_asm) (by k_asm) (by walk_at "MY mem") ?_); intro h9_k9 k9_k9 F9_k9 N9_k9 hT9_k9; (try dsimp only at hT9_k9 ⊢))
  k_with "MY@execs cons" => (k_here; (try dsimp only); (refine' execs_cons_k (by walk_at "MY tk") ?_); intro tk_q_k9 hT9_k9; (try dsimp only at hT9_k9))
  k_with "MY@execs cons Assign cons" => (k_here; (try dsimp only); (refine' execs_cons_k (by walk_at "MY tk") ?_); intro tk_q_k9 hT9_k9; (try dsimp only at hT9_k9))
  k_with "MY@call builtin:len" => (k_here; (with_reducible show wpAny _ _ (call (Value.builtin "len") [Value.str (S (rep _)) _]) _ _ _); k_dflt (refine' len_rep (by omega) ?_); (try dsimp only))
  trivial
theorem call_keep {prog : Program} {w : World} {A : Around} {s : Shared} {K : Frag} {R : Result → Shared → Prop} {name qual : Str} {params : Arguments} {body : List Stmt} {scope : Scope} {dV kV doc pm cdv ct oc : Value} {an od : Option Addr} {osl : Array (Option Value)} {f : Addr} {args : Args} {binds : List (Str × Value)}
    (X : K.In s.heap) (hl : s.heap.NoLimit)
    (ho : K.lookup f = some ⟨oc, od, .func (fnOf name qual params body scope dV kV doc pm an cdv ct), osl⟩) (hcd : codeIn K cdv qual = true) (hroom : A.depth < recursionLimit)
    (hbind : BindsTo s (fnOf name qual params body scope dV kV doc pm an cdv ct) args binds) (hloc : ∀ y ∈ binds, scope.names.lookup y.1 = some .local)
    (h : ∀ L h₁, L = s.heap.objs.size → Fr s.heap L h₁ (fun y => binds.reverse.lookup y) →
      wpAny (model prog w) (A.deeper (envOf qual scope L f cdv)) (execs body (envOf qual scope L f cdv))
        (fun fl s' => R (.ok (.ret (match fl with | .ret v => v | _ => .none))) s') (fun _ _ => False)
        { s with heap := h₁, toks := s.toks + binds.length })
    (hco : scope.isCoroutine = false := by rfl) (hgen : scope.isGenerator = false := by rfl) (hk : scope.kind = .function := by rfl)
    (hcell : ∀ x ∈ scope.names, x.2 ≠ .cell := by decide) : codeAny (model prog w) A (.call (.ref f) args) R s := by
  refine codeAny_call_def (fd := fnOf name qual params body scope dV kV doc pm an cdv ct) (body := body) (binds := binds) hroom (X _ _ ho) rfl hl (codeRec_of X hcd) rfl hbind hcell hloc (fun h₁ hns hk₁ => ?_) hco hgen hk
  exact wpAny_mono (h s.heap.objs.size h₁ rfl ⟨hns, fun b o e => hk₁ b o e, Nat.le_refl _⟩) (fun _ _ x => x) fun _ _ x => x.elim

theorem sub_spec (w : World) : ∀ (A : Around) (s : Shared) (x y : Int) (t u : Tok) (Q : Value → Shared → Prop) (E : Value → Shared → Prop), (hd.heap_39 w.params).In s.heap → s.heap.NoLimit → A.depth < recursionLimit →
    (∀ (h' : Heap) (t' k : Nat), s.toks ≤ k → (∀ b o, s.heap.get? b = some o → h'.get? b = some o) → Q (.int (x - y) t') { s with heap := h', toks := k }) →
    wpAny (model PySem.Challenge.rw_wn0056_01.row.prog w) A (call (.ref 74) [.int x t, .int y u]) Q E s := by
  k_fill
  intro A s x y t u Q E X hl hroom h
  refine wpAny_call ?_
  refine' call_keep X hl ?k6 ?k7 hroom ?k9 ?kB ?_ ?c2 ?c3 ?c4 ?c5
  case k6 => k_is
  case k7 => k_is
  case k9 => exact BindsTo.of_eq rfl
  case kB => exact locs rfl
  case c2 => exact rfl
  case c3 => exact rfl
  case c4 => exact rfl
  case c5 => decide
  intro L9 h9 hL9 F9
  (try dsimp only)
  have hB := Tks.one s.toks
  walk_at "MY steps"
  rename Fr _ _ _ _ => F10
  exact h _ _ _ (by walk_at "MY hd") (fun b o e => F10.keep b o e)
end Mine

-- part CloF
namespace Mine
set_option maxRecDepth 100000
set_option maxHeartbeats 8000000
local macro_rules | `(tactic| walk_at $s:str) => `(tactic| k_extra $(Lean.Syntax.mkStrLit ("MY@" ++ s.getString)))
theorem words_CloF : True := by
  k_with_none
  k_with "MY@MY tk" => with_reducible (first | assumption | exact Tks.add (by assumption) | exact Tks.add (Tks.add (by assumption)) | exact Tks.add (Tks.add (Tks.add (by assumption))) | exact Tks.add (Tks.add (Tks.add (Tks.add (by assumption)))) | exact Tks.add (Tks.add (Tks.add (Tks.add (Tks.add (by assumption))))) | exact Tks.add (Tks.add (Tks.add (Tks.add (Tks.add (Tks.add (by assumption)))))) | exact Tks.add (Tks.add (Tks.add (Tks.add (Tks.add (Tks.add (Tks.add (by assumption))))))) | exact Tks.add (Tks.add (Tks.add (Tks.add (Tks.add (Tks.add (Tks.add (Tks.add (by assumption)))))))) | exact Tks.add (Tks.add (Tks.add (Tks.add (Tks.add (Tks.add (Tks.add (Tks.add (Tks.add (by assumption))))))))) | exact Tks.add (Tks.add (Tks.add (Tks.add (Tks.add (Tks.add (Tks.add (Tks.add (Tks.add (Tks.add (by assumption)))))))))) | exact Tks.add (Tks.add (Tks.add (Tks.add (Tks.add (Tks.add (Tks.add (Tks.add (Tks.add (Tks.add (Tks.add (by assumption))))))))))) | exact Tks.add (Tks.add (Tks.add (Tks.add (Tks.add (Tks.add (Tks.add (Tks.add (Tks.add (Tks.add (Tks.add (Tks.add (by assumption)))))))))))) | exact Tks.add (Tks.add (Tks.add (Tks.add (Tks.add (Tks.add (Tks.add (Tks.add (Tks.add (Tks.add (Tks.add (Tks.add (Tks.add (by assumption))))))))))))) | exact Tks.add (Tks.add (Tks.add (Tks.add (Tks.add (Tks.add (Tks.add (Tks.add (Tks.add (Tks.add (Tks.add (Tks.add (Tks.add (Tks.add (by assumption)))))))))))))) | exact Tks.add (Tks.add (Tks.add (Tks.add (Tks.add (Tks.add (Tks.add (Tks.add (Tks.add (Tks.add (Tks.add (Tks.add (Tks.add (Tks.add (Tks.add (by assumption))))))))))))))) | exact Tks.add (Tks.add (Tks.add (Tks.add (Tks.add (Tks.add (Tks.add (Tks.add (Tks.add (Tks.add (Tks.add (Tks.add (Tks.add (Tks.add (Tks.add (Tks.add (by assumption)))))))))))))))) | exact Tks.add (Tks.add (Tks.add (Tks.add (Tks.add (Tks.add (Tks.add (Tks.add (Tks.add (Tks.add (Tks.add (Tks.add (Tks.add (Tks.add (Tks.add (Tks.add (Tks.add (by assumption))))))))))))))))) | exact Tks.add (Tks.add (Tks.add (Tks.add (Tks.add (Tks.add (Tks.add (Tks.add (Tks.add (Tks.add (Tks.add (Tks.add (Tks.add (Tks.add (Tks.add (Tks.add (Tks.add (Tks.add (by assumption)))))))))))))))))) | exact Tks.add (Tks.add (Tks.add (Tks.add (Tks.add (Tks.add (Tks.add (Tks.add (Tks.add (Tks.add (Tks.add (Tks.add (Tks.add (Tks.add (Tks.add (Tks.add (Tks.add (Tks.add (Tks.add (by assumption))))))))))))))))))) | exact Tks.add (Tks.add (Tks.add (Tks.add (Tks.add (Tks.add (Tks.add (Tks.add (Tks.add (Tks.add (Tks.add (Tks.add (Tks.add (Tks.add (Tks.add (Tks.add (Tks.add (Tks.add (Tks.add (Tks.add (by assumption)))))))))))))))))))) | exact Tks.add (Tks.add (Tks.add (Tks.add (Tks.add (Tks.add (Tks.add (Tks.add (Tks.add (Tks.add (Tks.add (Tks.add (Tks.add (Tks.add (Tks.add (Tks.add (Tks.add (Tks.add (Tks.add (Tks.add (Tks.add (by assumption))))))))))))))))))))) | exact Tks.add (Tks.add (Tks.add (Tks.add (Tks.add (Tks.add (Tks.add (Tks.add (Tks.add (Tks.add (Tks.add (Tks.add (Tks.add (Tks.add (Tks.add (Tks.add (Tks.add (Tks.add (Tks.add (Tks.add (Tks.add (Tks.add (by assumption)))))))))))))))))))))) | exact Tks.add (Tks.add (Tks.add (Tks.add (Tks.add (Tks.add (Tks.add (Tks.add (Tks.add (Tks.add (Tks.add (Tks.add (Tks.add (Tks.add (Tks.add (Tks.add (Tks.add (Tks.add (Tks.add (Tks.add (Tks.add (Tks.add (Tks.add (by assumption))))))))))))))))))))))) | exact Tks.add (Tks.add (Tks.add (Tks.add (Tks.add (Tks.add (Tks.add (Tks.add (Tks.add (Tks.add (Tks.add (Tks.add (Tks.add (Tks.add (Tks.add (Tks.add (Tks.add (Tks.add (Tks.add (Tks.add (Tks.add (Tks.add (Tks.add (Tks.add (by assumption)))))))))))))))))))))))))
  k_with "MY@MY lit" => first | with_reducible rfl | exact lit257 | exact litSpQ | exact litQ | exact litE | exact lit257Q | exact litLies
  k_with "MY@MY len" => first | assumption | (simp only [List.length_append, List.length_cons, List.length_nil, List.length_replicate, rep] at *; omega)
  k_with "MY@MY int" => first | decide | omega
  k_with "MY@subscriptTail Name Slice str ref" => (k_here; (with_reducible show wpAny _ _ (subscriptTail _ _ (Value.str (S _) _) (Value.ref _)) _ _ _); (refine' with_k (by walk_at "MY tk") ?_); k_dflt (first | (refine' sub_from (s := ⟨_, _, _, _, _⟩) (by k_asm) (by k_asm) (by walk_at "MY len") (by walk_at "MY int") _ (by walk_at "MY cut") ?_) | (refine' sub_to (s := ⟨_, _, _, _, _⟩) (by k_asm) (by k_asm) (by walk_at "MY len") (by walk_at "MY int") _ (by walk_at "MY cut") ?_) | (refine' sub_to_neg (s := ⟨_, _, _, _, _⟩) (by k_asm) (by k_asm) (by walk_at "MY len") (by walk_at "MY int") _ (by walk_at "MY cut") ?_) | (refine' sub_all (s := ⟨_, _, _, _, _⟩) (by k_asm) (by k_asm) (by walk_at "MY len") ?_) | (refine' sub_run (s := ⟨_, _, _, _, _⟩) (by k_asm) (by k_asm) (by walk_at "MY len") (by walk_at "MY int") (by walk_at "MY int") (by walk_at "MY len") _ (by walk_at "MY cut") ?_)); intro _ _ _ _ _ hT9_k9; (try dsimp only at hT9_k9); (try dsimp only))
  k_with "MY@subscriptTail Name Name str int" => (k_here; (with_reducible show wpAny _ _ (subscriptTail _ _ (Value.str (S _) _) (Value.int _ _)) _ _ _); k_dflt (refine' sub_item (by walk_at "MY len") (by walk_at "MY len") (by walk_at "MY len") _ (by walk_at "MY item") ?_); (try dsimp only))
  k_with "MY@subscriptTail Name BinOp str int" => (k_here; (with_reducible show wpAny _ _ (subscriptTail _ _ (Value.str (S _) _) (Value.int _ _)) _ _ _); k_dflt (refine' sub_item (by walk_at "MY len") (by walk_at "MY len") (by walk_at "MY len") _ (by walk_at "MY item") ?_); (try dsimp only))
  k_with "MY@compareOp NotEq str str" => (k_here; k_dflt (first | (refine' ne_no' (by walk_at "MY lit") (by walk_at "MY lit") (by first | rfl | walk_at "MY eq") ?_) | (refine' ne_yes' (by walk_at "MY lit") (by walk_at "MY lit") (by first | decide | walk_at "MY ne") ?_)); (try dsimp only))
  k_with "MY@compareOp Eq str str" => (k_here; k_dflt (first | (refine' eq_yes' (by walk_at "MY lit") (by walk_at "MY lit") (by first | rfl | walk_at "MY eq") ?_) | (refine' eq_no' (by walk_at "MY lit") (by walk_at "MY lit") (by first | decide | walk_at "MY ne") ?_)); (try dsimp only))
  k_with "MY@call builtin:len" => (k_here; k_dflt (refine len_S (by walk_at "MY len") ?_); (try dsimp only))
  k_with "MY@binaryOp Add str str" => (k_here; (refine' with_k (by walk_at "MY tk") ?_); k_dflt (refine' add_S' (by walk_at "MY lit") (by walk_at "MY lit") (by walk_at "MY len") ?_); intro t9_k9 k9_k9 hT9_k9; (try dsimp only at hT9_k9); (try dsimp only))
  k_with "MY@MY free" => ((fail_if_success (with_reducible show wpAny _ _ (call (Value.ref 74) _) _ _ _)); (fail_if_success (with_reducible show wpAny _ _ (exec (Stmt.Expr _ _) _) _ _ _)); (fail_if_success (with_reducible show wpAny _ _ (call (Value.ref 109) _) _ _ _)); (fail_if_success (with_reducible show wpAny _ _ (call (Value.ref 88) _) _ _ _)); (fail_if_success (with_reducible show wpAny _ _ (exec (Stmt.For _ _ _ _ _) _) _ _ _)); (fail_if_success (with_reducible show wpAny _ _ (exec (Stmt.While _ _ _ _) _) _ _ _)); (fail_if_success (with_reducible show FStep _ _ _ _ _ _ _ _ _)); (fail_if_success (with_reducible show wpAny _ _ (pyIter _) _ _ _)); (fail_if_success (with_reducible show Exists _)); (fail_if_success (with_reducible show Fr _ _ _ _ ∧ _)); (fail_if_success (with_reducible show Keeps _ _ ∧ _)); (fail_if_success (with_reducible show WStep _ _ _ _ _ _ _ _)); (fail_if_success (with_reducible show wpAny _ _ (exec (Stmt.Assign _ (Expr.ListComp _ _ _ _) _) _) _ _ _)); (fail_if_success (with_reducible show wpAny _ _ (eval (Expr.ListComp _ _ _ _) _) _ _ _)))
  k_with "MY@MY steps" => repeat' (first | (k_unfold; (try dsimp only)) | (k_end; wrow_close) | (walk_at "MY free"; first | walk1 | (dsimp only; walk1) | (leave1; walk_say "STEP leave1"; try dsimp only)) | fail "no step")
  k_with "MY@MY cut" => with_reducible rfl
  k_with "MY@truthy str" => (k_here; k_dflt (first | (refine truthy_S (by walk_at "MY len") true (by refine decide_eq_true ?_; walk_at "MY full") ?_) | (refine truthy_S (by walk_at "MY len") false (by refine decide_eq_false ?_; refine not_not_intro ?_; walk_at "MY empty") ?_)); (try dsimp only))
  k_with "MY@execs cons" => (k_here; (refine' execs_cons_k (by walk_at "MY tk") ?_); intro tk_q_k9 hT9_k9; (try dsimp only at hT9_k9))
  k_with "MY@execs nil" => (k_here; refine wpAny_execs_nil ?_)
  k_with "MY@execs cons Assign cons" => (k_here; (refine' execs_cons_k (by walk_at "MY tk") ?_); intro tk_q_k9 hT9_k9; (try dsimp only at hT9_k9))
  k_with "MY@MY hd" => ((try dsimp only); first | exact Tks.hd (by assumption) | exact Tks.hd (Tks.add (by assumption)) | exact Tks.hd (Tks.add (Tks.add (by assumption))) | exact Tks.hd (Tks.add (Tks.add (Tks.add (by assumption)))))
  k_with "MY@MY mem" => first | assumption | exact List.Mem.head _ | (refine' List.Mem.tail _ ?_; walk_at "MY mem") | (refine' List.mem_append_right _ ?_; walk_at "MY mem")
  k_with "MY@MY list" => exact isList_of (by k_asm) (by walk_at "MY mem")
  k_with "MY@MY size" => first | assumption | with_reducible rfl
  k_with "MY@MY fits" => omega
  k_with "MY@MY get" => first | assumption
  k_with "MY@call builtin:len" => (k_here; (with_reducible show wpAny _ _ (call (Value.builtin "len") [Value.ref _]) _ _ _); k_dflt (refine' len_l (by walk_at "MY list") (by walk_at "MY size") (by walk_at "MY fits") ?_); (try dsimp only))
  k_with "MY@subscriptTail Name Name ref int" => (k_here; (with_reducible show wpAny _ _ (subscriptTail _ _ (Value.ref _) (Value.int _ _)) _ _ _); k_dflt (refine' item_l (by walk_at "MY list") (by omega) (by omega) (by walk_at "MY get") ?_); (try dsimp only))
  k_with "MY@call type:range" => (k_here; (with_reducible show wpAny _ _ (call _ [Value.int _ _]) _ _ _); (refine' with_k (by walk_at "MY tk") ?_); k_dflt (refine' range1_rows (by k_asm) (by k_asm) ?_); intro h9_k9 tk9_k9 t9_k9 u9_k9 v9_k9 hR9_k9 F9_k9 N9_k9 K9_k9 hT9_k9; (try dsimp only at hT9_k9 ⊢))
  k_with "MY@MY room" => (first | omega | ktr_room | k_room)
  k_with "MY@MY units" => (first | omega | ktr_units)
  k_with "MY@MY enter" => (refine' code_def ?k1_z8 ?k2_z8 ?k3_z8 ?k4_z8 ?k5_z8 ?kA_z8 ?kF_z8 ?kK_z8 ?k6_z8 ?k7_z8 ?k8_z8 ?k9_z8 ?kB_z8 ?_ ?c2_z8 ?c3_z8 ?c4_z8 ?c5_z8; (case kA_z8 => exact rfl); (case kF_z8 => exact rfl); (case kK_z8 => first | exact rfl | assumption); (case k1_z8 => k_asm); (case k2_z8 => k_asm); (case k3_z8 => k_asm); (case k4_z8 => k_asm); (case k5_z8 => k_asm); (case k6_z8 => k_is); (case k7_z8 => k_is); (case k8_z8 => walk_at "MY room"); (case k9_z8 => exact BindsTo.of_eq rfl); (case c5_z8 => decide); (case kB_z8 => exact locs rfl); (case c2_z8 => exact rfl); (case c3_z8 => exact rfl); (case c4_z8 => exact rfl); k_whole; intro g_q_k9 L_q_k9 h_q_k9 FG_q_k9 F_q_k9 N_q_k9 B_q_k9 X_q_k9 T_q_k9; (try dsimp only); (try k_lift B_q_k9); (try k_fold))
  k_with "MY@call ref" => (k_here; (with_reducible first | show wpAny _ _ (call (Value.ref 81) _) _ _ _ | show wpAny _ _ (call (Value.ref 53) _) _ _ _ | show wpAny _ _ (call (Value.ref 60) _) _ _ _ | show wpAny _ _ (call (Value.ref 67) _) _ _ _ | show wpAny _ _ (call (Value.ref 74) _) _ _ _); refine wpAny_call ?_; k_dflt walk_at "MY enter")
  k_with "MY@binaryOp Mod int int" => (k_here; k_dflt (refine' mod_em (by omega) ?_); intro r9_k9 hr9_k9 h09_k9 h19_k9; (try dsimp only))
  k_with "MY@MY memr" => with_reducible (first | assumption | exact List.mem_cons_self | (refine List.mem_cons_of_mem _ ?_; walk_at "MY memr") | (refine List.mem_append_right _ ?_; walk_at "MY memr"))
  k_with "MY@MY litem" => (k_here; (with_reducible show wpAny _ _ (subscriptTail _ _ (Value.ref _) (Value.int _ _)) _ _ _); k_dflt (first
  | (refine' it_tups (by k_asm) (by walk_at "MY memr") (by with_reducible assumption) (by assumption) (by assumption) (by omega) (by omega) (by omega) ?_; intro b9_k9 x9_k9 y9_k9 t9_k9 u9_k9 n9_k9 hx9_k9 hl9_k9 hk9_k9 hn9_k9 hm9_k9)
  | (with_reducible refine' it_runs (by k_asm) (by walk_at "MY memr") (by assumption) (by omega) (by omega) ?_ (by with_unfolding_all rfl); intro t9_k9 hp9_k9)
  | (with_reducible refine' it_ways (by k_asm) (by walk_at "MY memr") (by assumption) (by assumption) (by omega) (by omega) ?_ (by with_unfolding_all rfl); intro b9_k9 its9_k9 kk9_k9 hm9_k9 hI9_k9)
  | (refine' it_ints (by k_asm) (by walk_at "MY memr") (by with_reducible assumption) (by omega) (by omega) (by omega) ?_; intro x9_k9 t9_k9 hx9_k9)); (try dsimp only))
  k_with "MY@subscriptTail Name Name ref int" => walk_at "MY litem"
  k_with "MY@subscriptTail Name BinOp ref int" => walk_at "MY litem"
  k_with "MY@subscriptTail Subscript Name ref int" => walk_at "MY litem"
  k_with "MY@assign Tuple" => (k_here; (with_reducible show wpAny _ _ (assign (Expr.Tuple _ _ _) _ (Value.ref _)) _ _ _); k_dflt (refine' unpackN_ (by k_asm) (by k_asm) (by exact News.isTup (by k_asm) (by walk_at "MY mem")) (by exact rfl) (by exact rfl) (by exact rfl) ?_); intro h9_k9 F9_k9 N9_k9; (try dsimp only))
  k_with "MY@subscriptTail" => (k_here; (with_reducible show wpAny _ _ (subscriptTail _ _ (Value.ref _) (Value.ref _)) _ _ _); (try dsimp only); k_dflt (first
  | (refine' sl_to (s := ⟨_, _, _, _, _⟩) (by k_asm) (by k_asm) (by walk_at "MY mem") (by omega) (by omega) (by omega) ?_)
  | (refine' sl_from (s := ⟨_, _, _, _, _⟩) (by k_asm) (by k_asm) (by walk_at "MY mem") (by omega) (by omega) (by omega) ?_)); intro d9_k9 h9_k9 F9_k9 N9_k9 l9_k9; (try dsimp only))
  k_with "MY@binaryOp Add ref ref" => (k_here; k_dflt (refine' add_refs (by k_asm) (by k_asm) (by walk_at "MY mem") (by walk_at "MY mem") (by first | omega | (simp only [List.length_append, List.length_take, List.length_drop] at *; omega)) ?_); intro d9_k9 h9_k9 F9_k9 N9_k9 l9_k9; (try dsimp only))
  k_with "MY@call builtin:hasattr" => (k_here; (refine' with_k (by walk_at "MY tk") ?_); k_dflt (refine' has_listN (by k_asm) (by k_asm) (by walk_at "MY mem") ?_); intro h9_k9 k9_k9 F9_k9 N9_k9 hT9_k9; (try dsimp only at hT9_k9 ⊢))
  k_with "MY@execs cons" => (k_here; (try dsimp only); (refine' execs_cons_k (by walk_at "MY tk") ?_); intro tk_q_k9 hT9_k9; (try dsimp only at hT9_k9))
  k_with "MY@execs cons Assign cons" => (k_here; (try dsimp only); (refine' execs_cons_k (by walk_at "MY tk") ?_); intro tk_q_k9 hT9_k9; (try dsimp only at hT9_k9))
  k_with "MY@call builtin:len" => (k_here; (with_reducible show wpAny _ _ (call (Value.builtin "len") [Value.str (S (rep _)) _]) _ _ _); k_dflt (refine' len_rep (by omega) ?_); (try dsimp only))
  k_with "MY@MY steps7" => repeat' (first | (k_unfold; (try dsimp only)) | (k_end; wrow_close) | ((fail_if_success (with_reducible show JStep _ _ _ _ _ _ _ _ _ _ _)); (fail_if_success (with_reducible show wpAny _ _ (execs (Stmt.If (Expr.Call _ _ _ _) _ _ _ :: _) _) _ _ _)); walk_at "MY free"; first | walk1 | (dsimp only; walk1) | (leave1; walk_say "STEP leave1"; try dsimp only)) | fail "no step")
  k_with "MY@eval Name" => (k_here; (with_reducible show wpAny _ _ (eval (Expr.Name _ _) (compEnvC _ _ _ _)) _ _ _); k_dflt (first
  | (refine' ce_local (by assumption) (by assumption) ?_ (by exact rfl) (by exact rfl) (by decide))
  | (refine' ce_cell (by exact rfl) (by assumption) ?_ (by exact rfl) (by exact rfl) (by decide))
  | (refine' ce_free (by exact rfl) (by assumption) ?_ (by exact rfl) (by exact rfl) (by decide) (by decide))
  | (refine' ce_K (by k_asm) (by k_asm) (by k_asm) (by k_is) ?_ (by exact rfl) (by exact rfl) (by exact rfl) (by decide))
  | (refine' ce_B (by k_asm) (by k_asm) (by k_asm) (by k_is) (by boot_fast) (by decide) ?_ (by exact rfl) (by exact rfl) (by exact rfl) (by exact rfl) (by decide))))
  k_with "MY@binaryOp Mult str int" => (k_here; k_dflt (refine' mul_qt (by walk_at "MY lit") (by omega) (by omega) ?_); intro t9_k9 k9_k9 hK9_k9 hT9_k9; (try dsimp only at hK9_k9 hT9_k9 ⊢))
  k_with "MY@MY steps2" => repeat' (first | (k_unfold; (try dsimp only)) | (k_end; wrow_close) | ((fail_if_success (with_reducible show wpAny _ _ (newTuple _) _ _ _)); walk_at "MY free"; first | walk1 | (dsimp only; walk1) | (leave1; walk_say "STEP leave1"; try dsimp only)) | fail "no step")
  k_with "MY@compareOp NotEq ref ref" => (k_here; (with_reducible show wpAny _ _ (compareOp CmpOp.NotEq (Value.ref _) (Value.ref _)) _ _ _); k_dflt (refine' ne_empty (by k_asm) (by walk_at "MY mem") (by walk_at "MY mem") (by rfl) (by first | units_room | walk_at "MY units") _ (by assumption) ?_); (try dsimp only))
  k_with "MY@MY steps3" => repeat' (first | (k_unfold; (try dsimp only)) | (k_end; wrow_close) | ((fail_if_success (with_reducible show WStep _ _ _ _ _ _ _ _)); (fail_if_success (with_reducible show wpAny _ _ (call (Value.builtin "list.append") _) _ _ _)); first | walk1 | (dsimp only; walk1) | (leave1; walk_say "STEP leave1"; try dsimp only)) | fail "no step")
  k_with "MY@MY enterC" => (refine' code_defC (by k_asm) (by k_asm) (by k_asm) (by k_asm) (by k_asm) (by exact rfl) (by exact rfl) (by assumption) (by k_is) (by k_is) (by ktr_room) (by exact BindsTo.of_eq rfl) (by exact rfl) (by decide +kernel) ?_ (by exact rfl) (by exact rfl) (by exact rfl); k_whole; intro g_q_k9 L_q_k9 h_q_k9 tk_q_k9 cells_q_k9 FG_q_k9 F_q_k9 N_q_k9 Y_q_k9 B_q_k9 X_q_k9 T_q_k9 l1_k9; (try k_lt l1_k9); k_cells Y_q_k9; (try simp only [List.cons_append, List.nil_append] at N_q_k9); (try dsimp only); (try k_lift B_q_k9); (try k_fold))
  trivial

local macro_rules | `(tactic| k_updF) => `(tactic| first | exact updR (by assumption) | exact updW (by assumption) | exact upd5_1 (by assumption) | exact upd5_2 (by assumption) | exact upd5_3 (by assumption) | exact upd5_4 (by assumption) | exact upd5_5 (by assumption) | (refine' UpdF.tail ?a ?b; (case a => k_ne); (case b => k_updF)))
theorem closure_spec (w : World) (mean : ExcName → Option Value) (mg mb : Str → Option Value) (news : List (Addr × Obj)) (as' ap : Addr) (is' ip : Array Value) (ks kp : Nat) (ss ps : List Int) (c : Nat) (t : Tok) :
   Clm 5 100 PySem.Challenge.rw_wn0056_01.row.prog w (hd.heap_39 w.params) hd.view_39 (looseW hd.view_39 []) mean mg mb 114 news ((as', listOf is' ks) ∈ news ∧ (ap, listOf ip kp) ∈ news ∧ Ints is' ss ∧ Ints ip ps ∧ 0 < ps.length ∧ ps.length ≤ 1000 ∧ c ≠ 34 ∧ ss.length ≤ 4 ∧ 0 < ss.length ∧ ss.Nodup ∧ ∀ z ∈ ss, 1 ≤ z ∧ z ≤ 18) [Value.ref as', Value.str (S [c]) t, Value.ref ap] (ROut ss) := by
  k_fill
  intro dp un gd cn cs a ccd cl outer A₀ base h₀ L m s Q E B F X N T hk
  intro hp hd hu hret
  obtain ⟨hms, hmp, his, hip, hp0, hp1, hc34, hsl, hs0, hsnd, hsb⟩ := hp
  have hsz := his.1
  refine wpAny_call ?_
  k_dflt walk_at "MY enterC"
  rename Nat => tk0
  have hoff := Off5.of (by assumption)
  have hB : Tks [tk0] tk0 := Tks.one tk0
  walk_at "MY steps"
  refine asg_one (by with_unfolding_all rfl) ?_
  refine lc_eval (oc := false) (x := "marks") (cl := []) rfl ⟨rfl, rfl, by decide, fun _ => rfl, fun _ => rfl, rfl⟩ ?_
  walk_at "MY steps"
  rename Fr _ _ _ _ => F1
  rename News _ _ _ _ => N1
  refine ⟨is'.size, _, .inl ⟨as', is', rfl, isList_of N1 (by walk_at "MY mem"), rfl, rfl⟩, by rw [sizeLine_eq]; omega, fun i ys h tk => RunJ ss i ys tk, _, _, _, rfl, rfl, rfl, fun i ys h h' tk tk' hJ hle _ => hJ.up hle, ⟨[], rfl, rfl, fun _ h => nomatch h⟩, ?turn, ?fin⟩
  case turn =>
    intro i v ys h tk E' hi htk0 hP hJ hv _ _ _ kp
    have htk0 := htk0 rfl
    obtain ⟨m9, hn9, hm9⟩ := hv
    have F2 := F1.keeps kp
    have N2 := N1.grown kp
    clear F1 N1
    refine wpAny_pure ⟨⟨h, tk, rfl, fun _ _ e => e⟩, ?_⟩
    simp only [if_true]
    obtain ⟨t1, e1⟩ := his.at (i := i) (by omega)
    obtain rfl := Option.some.inj (hP.symm.trans e1)
    have hss : ss[i]? = some (ss.getD i 0) := by rw [List.getD_eq_getElem?_getD, List.getElem?_eq_getElem (by omega)]; rfl
    obtain ⟨hz1, hz2⟩ := hsb _ (List.mem_of_getElem? hss)
    have hB2 := Tks.one tk
    walk_at "MY steps"
    rename (_ ∨ _) => hT9
    rename (_ ≤ _) => hK9
    refine ⟨⟨h, _, rfl, fun _ _ e => e⟩, ?_⟩
    exact RunJ.snoc hJ (Nat.le_of_lt (tok_a hK9)) hss (tok_b htk0 hT9) (tok_c hK9 hT9)
  case fin =>
    intro h tkR ysR kp hL hRun
    obtain ⟨F2, N2, l2⟩ := comp_new F1 N1 (fun b o e => kp b o (fun q => nomatch q) e) (Nat.le_succ _) (show _ = some (listOf ysR.toArray ysR.length) from hL)
    have hoff2 := hoff.cons (o := listOf ysR.toArray ysR.length) (Nat.lt_succ_of_lt (lt5 N1))
    have hLar := Nat.lt_succ_of_lt (lt5 N1)
    replace N2 := norm5 N2
    clear F1 N1 l2 kp hL hoff
    have hB2 := Tks.one tkR
    walk_at "MY steps"
    refine asg_one (by with_unfolding_all rfl) ?_
    refine with_k (l := [tkR]) (by walk_at "MY tk") ?_
    refine lc_eval (oc := true) (x := "i") rfl ⟨by with_unfolding_all rfl, rfl, by decide, fun _ => rfl, fun _ => rfl, rfl⟩ ?_
    walk_at "MY steps"
    rename Fr _ _ _ _ => F3
    rename News _ _ _ _ => N3
    rename IsRange _ _ _ _ _ _ _ _ => R3
    rename Heap => h9
    refine ⟨ss.length, _, .inr ⟨_, 0, _, _, _, _, rfl, R3, range_l (by omega), by rw [rangeSize_nat]; simp, rfl⟩, by rw [sizeLine_eq]; omega, fun i ys h tk => RowJ ss.length (h9.objs.size + 3) i ys h, _, h9.objs.size + 3, _, rfl, rfl, rfl, fun i ys h h' tk tk' r _ k => r.keeps k, RowJ.nil, ?turn, ?fin⟩
    case turn =>
      intro i v ys h tk E' hi _ hP hJ hv _ _ huo kp
      obtain ⟨tv, rfl⟩ := hP
      have hv9 : h.IsCell (h9.objs.size + 3) (some (.int (0 + (i : Int)) tv)) := hv
      have F4 := F3.keeps kp
      have N4 := N3.grown kp
      clear F3 N3
      have hB3 := Tks.one tk
      refine wpAny_pure ⟨⟨h, tk, rfl, fun _ _ e => e⟩, ?_⟩
      simp only [if_true]
      refine lc_eval (oc := false) (x := "j") rfl ⟨by with_unfolding_all rfl, rfl, by decide, fun _ => rfl, fun _ => rfl, rfl⟩ ?_
      walk_at "MY steps"
      rename Fr _ _ _ _ => F5
      rename News _ _ _ _ => N5
      rename IsRange _ _ _ _ _ _ _ _ => R5
      rename Heap => h10
      rename (∀ _ _, _ → h10.get? _ = _) => K5
      refine ⟨ss.length, _, .inr ⟨_, 0, _, _, _, _, rfl, R5, range_l (by omega), by rw [rangeSize_nat]; simp, rfl⟩, by rw [sizeLine_eq]; omega, fun k zs hh tk => IntsL zs ((unit ss.length i).take k), _, _, _, rfl, rfl, rfl, fun _ _ _ _ _ _ r _ _ => r, IntsL.nil, ?turn2, ?fin2⟩
      case turn2 =>
        intro k v2 zs h2 tk2 E2 hk2 _ hP2 hJ2 hv2 _ _ _ kp2
        obtain ⟨t2, rfl⟩ := hP2
        obtain ⟨m9, hn9, hm9⟩ := hv2
        have hv10 := (hv9.keeps K5).keeps kp2
        have F6 := F5.keeps kp2
        have N6 := N5.grown kp2
        clear F5 N5 F4 N4
        have hB4 := Tks.one tk2
        refine wpAny_pure ⟨⟨h2, tk2, rfl, fun _ _ e => e⟩, ?_⟩
        simp only [if_true]
        have hug := unit_get (n := ss.length) (k := i) hk2
        walk_at "MY steps"
        all_goals (refine ⟨⟨_, _, rfl, fun _ _ e => e⟩, IntsL.snoc hJ2 ?_⟩; rw [hug]; first | rw [if_pos (by omega)] | rw [if_neg (by omega)])
      case fin2 =>
        intro h2 tk2 zs kp2 hL2 hJ2
        have hE : ∀ b o, h.get? b = some o → h2.get? b = some o := fun b o e => kp2 b o (fun q => nomatch q) (K5 b o e)
        refine ⟨⟨h2, tk2, rfl, hE⟩, ?_⟩
        refine RowJ.snoc (hJ.keeps fun b o _ e => hE b o e) ?_ hL2 hJ2.full
        obtain ⟨ou, hou⟩ := huo
        exact Nat.lt_succ_of_lt (Heap.lt_size (K5 _ _ hou))
    case fin =>
      intro h tk ysW kp hL hJ hT3
      obtain ⟨F4, N4, l4⟩ := comp_new F3 N3 (fun b o e => kp b o (fun q => nomatch q) e) (Nat.le_succ _) (show _ = some (listOf ysW.toArray ysW.length) from hL)
      have hraw := l4 (_, listOf ysR.toArray ysR.length) (by walk_at "MY mem")
      have hoff4 := hoff2.cons (o := listOf ysW.toArray ysW.length) (Nat.lt_succ_of_lt (lt5 N3))
      replace N4 := norm5 N4
      obtain ⟨rl, hrl, hrlen, hrall, hrow⟩ := hJ
      have N5 := rows5 F3 N4 (rl := rl) (fun p hp => ⟨Nat.le_of_lt (Nat.lt_of_le_of_lt (Nat.le_add_right _ 3) (hrall p hp).1), (hrall p hp).2⟩)
      have hoff5 := hoff4.app (rl := rl) (fun p hp => Nat.lt_trans (lt5 N3) (Nat.lt_of_le_of_lt (Nat.le_add_right _ 3) (hrall p hp).1))
      clear F3 N3 N4 l4 kp hL hoff4 hoff2
      walk_at "MY steps"
      rename Fr _ _ _ _ => F6
      refine with_k (l := [tkR]) (by walk_at "MY tk") ?_
      refine two_assign (s := ⟨_, _, _, _, _⟩) (x := "j") (y := "i") (cl := []) rfl ?a1 ?a2 ?a3 ?a4 ?a5 ?a6 ?a7 ?a8 ?a9 ?a10 ?a11 F6 ?a12
      case a1 => exact rfl
      case a2 => exact rfl
      case a3 => decide
      case a4 => exact fun _ => rfl
      case a5 => exact fun _ => rfl
      case a6 => exact rfl
      case a7 => exact rfl
      case a8 => decide
      case a9 => with_unfolding_all exact rfl
      case a10 => exact rfl
      case a11 => exact rfl
      walk_at "MY steps"
      rename Fr _ _ _ _ => F7
      rename News _ _ _ _ => N7
      rename IsRange _ _ _ _ _ _ _ _ => R7
      rename Heap => h11
      refine ⟨F7, ss.length, _, _, _, _, fun i => i, fun i k ys h => k ≤ i ∧ PairsJ (h11.objs.size + 2) (pairsTo i k) ys h, _, _, rfl, R7, range_l (by omega), by rw [rangeSize_nat]; simp, rfl, rfl, ?hlen, fun i k ys h h' r kk => ⟨r.1, r.2.keeps kk⟩, ⟨Nat.le_refl _, PairsJ.nil⟩, fun i ys h r => ⟨Nat.zero_le _, by show PairsJ _ (pairsTo (i + 1) 0) ys h; rw [← pairsTo_step]; exact r.2⟩, fun _ => rfl, ?second, ?turn3, ?fin3⟩
      case hlen =>
        intro i k ys h r hi
        rw [r.2.len, pairsTo, List.length_append, List.length_map, List.length_range, sizeLine_eq]
        have e := below_len i
        have e2 : i * (i - 1) ≤ 4 * 3 := Nat.mul_le_mul (by omega) (by omega)
        have := r.1
        omega
      case second =>
        intro i t h tk m E' hi hn9 hm9 kp
        have F8 := F7.keeps kp
        have N8 := N7.grown kp
        clear F7 N7 F6
        have hB4 := Tks.one tk
        walk_at "MY steps"
        rename (∀ _ _, _ → Heap.get? _ _ = _) => K5
        rename IsRange _ _ _ _ _ _ _ _ => R8
        exact ⟨⟨_, _, rfl, K5⟩, _, _, _, _, rfl, R8, range_l (by omega), by rw [rangeSize_nat]; simp⟩
      case turn3 =>
        intro i k t t' ys h tk m E' hi hk hJ hn9 hm9 hm9' kp
        have F8 := F7.keeps kp
        have N8 := N7.grown kp
        have hlt : h11.objs.size + 2 < h.objs.size := hn9.lt
        clear F7 N7 F6
        have hB4 := Tks.one tk
        walk_at "MY steps2"
        refine wpAny_newTuple ?_ (by show 2 ≤ sizeLine; rw [sizeLine_eq]; decide)
        refine ⟨⟨_, _, rfl, fun b o e => Heap.get?_push_of_some _ e⟩, ?_⟩
        refine ⟨hk, ?_⟩
        show PairsJ _ (pairsTo i (k + 1)) _ _
        rw [pairsTo_snoc]
        exact (hJ.2.keeps fun b o _ _ e => Heap.get?_push_of_some _ e).snoc hlt (Heap.get?_push_size _ rfl) ⟨_, _, _, rfl⟩
      case fin3 =>
        intro h tk ysQ kp hL hJ hns hT4
        obtain ⟨F8, N8⟩ := comp_stored F7 N7 kp hns
        obtain ⟨_, tl, htl, htall, htlen, htup⟩ := hJ
        have hszW := Heap.lt_size (N7 (_, listOf ysW.toArray ysW.length) (by walk_at "MY mem")).1
        have N9 := start_led F7 N8 (tl := tl) (aq := h11.objs.size + 1) (oq := listOf ysQ.toArray ysQ.length) (fun p hp => ⟨Nat.le_of_lt (Nat.lt_of_le_of_lt (Nat.le_add_right _ 2) (htall p hp).1), (htall p hp).2.1⟩) (Nat.le_succ _) hL
        have hO := start_off (rl := rl) (tl := tl) (aq := h11.objs.size + 1) (oq := listOf ysQ.toArray ysQ.length) (news := news) (by assumption) hLar hraw (fun p hp => Nat.lt_of_le_of_lt (Nat.le_add_right _ 2) (hrall p hp).1) (fun p hp => Nat.lt_trans hszW (Nat.lt_of_le_of_lt (Nat.le_add_right _ 2) (htall p hp).1)) (Nat.lt_succ_of_lt hszW)
        clear F7 N7 F6 hns N8 hL kp hoff5
        have hoff6 : Off5 _ _ := hO.five (oR := listOf ysR.toArray ysR.length) (oW := listOf ysW.toArray ysW.length)
        walk_at "MY steps"
        rename Fr _ _ _ _ => F10
        rename News _ _ _ _ => N10
        obtain ⟨l, hl1, hl2, hl3⟩ := hRun
        have hpos : 1 ≤ tkR := RunJ.pos ⟨l, hl1, hl2, hl3⟩ (by omega) hs0
        rename Tks [tkR] _ => hT10
        have htk9 := hT10.hd
        rw [hl1] at N10
        subst hrl htl
        rw [pairsTo_zero] at htlen htup
        refine While_LJ (s := ⟨_, _, _, _, _⟩) as' ap c t ss news 200 F10 N10 ?hJ ?turn ?hE
        case hE => passes_own
        case hJ =>
          refine .mk (taken := 0) (aq := h11.objs.size + 1) (kq := (tl.map fun p => Value.ref p.1).length) (l := l) (wl := rl) (tl := tl) ⟨rfl, ?_, ?_, ?_, ?_, ?_, rfl, HI.mk rfl rfl, rfl, rfl, hO, ?_, ?_, ?_, ⟨htlen, htup⟩, ?_, rows_start hrlen hrow, ?_, ?_, ?_⟩
          · with_unfolding_all assumption
          · assumption
          · assumption
          · exact ⟨_, by assumption⟩
          · exact ⟨_, by assumption⟩
          · exact fun p hp => List.mem_append_right _ (List.mem_append_right _ (List.mem_cons_of_mem _ hp))
          · exact List.mem_append_right _ (List.mem_append_right _ (List.Mem.head _))
          · exact fun p hp => List.mem_append_right _ (List.mem_append_left _ hp)
          · exact fun p hp => ⟨List.mem_append_left _ hp, Nat.lt_trans (Nat.lt_of_le_of_lt (Nat.le_add_right _ 5) hLar) (Nat.lt_trans hraw (Nat.lt_of_le_of_lt (Nat.le_add_right _ 2) (hrall p hp).1))⟩
          · exact fun p hp => ⟨(hl3 p hp).1, Nat.lt_of_lt_of_le (hl3 p hp).2 htk9⟩
          · exact Nat.le_trans hpos htk9
          · rw [hl2, hsz, List.take_length]; exact CInv.start hsnd hsb
        case turn =>
          intro n m₁ nw h₁ tk₁ RQ RZ RE F11 N11 J11 hRQ hRZ
          clear F10 N10 hO hoff6 hrall hrow htall htup htlen hl1 hl2 hl3 hraw hLar htk9 hszW R7 R3 hpos
          obtain @⟨_, _, _, taken, o1, o2, o3, o4, o5, ar, aw, aq, kr, kw, kq, l, ws, wl, tl, q, rest, P⟩ := J11
          obtain rfl := P.eq
          obtain ⟨tt, etk⟩ := P.tm
          have F12 := fr_of F11 [("waiting", _), ("taken", _), ("sign", _), ("picks", _)] (List.forall_mem_cons.mpr ⟨P.wm, List.forall_mem_cons.mpr ⟨etk, List.forall_mem_cons.mpr ⟨P.sm, List.forall_mem_cons.mpr ⟨P.pm, fun _ h => nomatch h⟩⟩⟩⟩)
          clear F11 etk
          dsimp only [kstB] at F12
          have hd1 := P.d1
          have hd2 := P.d2
          have hd3 := P.d3
          obtain ⟨v4, hd4⟩ := P.d4
          obtain ⟨v5, hd5⟩ := P.d5
          have hoff : Off5 _ _ := P.off.five (oR := listOf (runArr l) kr) (oW := listOf (refs wl) kw)
          have hqm := P.qm
          have hpm := P.news _ hmp
          have hsm := P.news _ hms
          have hB5 := Tks.one tk₁
          have hszR : (runArr l).size = l.length := runArr_size l
          have hl18 : l.length ≤ 18 := by have := P.inv.len; rwa [List.length_map] at this
          have hszQ : (refs tl).size = q.length := by rw [refs_size, P.tups.1]
          have hq153 := P.inv.sz
          by_cases hq0 : q.length = 0
          · have hqb : ((refs tl).size != 0) = false := by rw [hszQ, hq0]; rfl
            walk_at "MY steps"
            refine hRZ _ ?_
            clear hRZ hRQ
            (try dsimp only)
            walk_at "MY steps"
            have hqn := List.length_eq_zero_iff.mp hq0
            subst hqn
            rename News h₀ L _ _ => kN
            rename Fr h₀ L _ _ => kF
            rename (_ < _) ∧ _ => hDl
            obtain ⟨nR, nD⟩ := fin_out kN P (by assumption) (by exact hDl.2.2.2.2.2.1)
            exact hret _ _ _ _ ⟨P.rows, P.inv⟩ kF nR nD
          · have hqb : ((refs tl).size != 0) = true := by rw [hszQ]; simpa using hq0
            have hszP : ip.size = ps.length := hip.1
            have hQok := P.inv.ok
            obtain ⟨rs, hrs⟩ : ∃ rs, l.map (·.1) = rs := ⟨_, rfl⟩
            have hInv := P.inv
            rw [hrs] at hInv
            have hlen := hInv.len
            have hwlen := hInv.wlen
            have hlrs : rs.length = l.length := by rw [← hrs, List.length_map]
            have hNe : ∀ i j, i < l.length → j < l.length → i ≠ j → rs.getD i 0 ≠ rs.getD j 0 := fun i j hi hj h => hInv.ne (by omega) (by omega) h
            have hRng : ∀ i, i < l.length → rs.getD i 0 ≤ 18 := fun i hi => (hInv.rng _ (getD_mem' (by omega))).2
            have hTups := P.tups
            have hTl : tl.length = q.length := P.tups.1
            have hTm := P.tlm
            have hRows := P.rows
            have hWl : wl.length = ws.length := P.rows.1
            have hWm := P.wlm
            have hq1 : 0 < q.length := by omega
            walk_at "MY steps"
            rename News _ _ _ ((_, listOf (refs (_ ++ _)) _) :: _) => N12
            rename (∀ p : Addr × Obj, p ∈ _ → p.1 < _) => l12
            rename q[Int.toNat _]? = some (_, _) => hxq
            obtain ⟨pn, tl2, hpn, htl2, hT2, hl2, NQ, OQ⟩ := turn_q hxq (by assumption) P.tups P.off N12 l12
            clear N12 l12 hxq hoff
            obtain ⟨hbx, hby, hbx2, hby2⟩ := bnd_of hpn hInv
            have hoff2 : Off5 _ _ := OQ.five (oR := listOf (runArr l) kr) (oW := listOf (refs wl) kw)
            rename Tks [tk₁] _ => hT12
            have htkB := hT12.hd
            refine' ct_use (between_spec _ _ _ _ _ _ _ _ _ _ _ _ _) ?B ?F ?X ?N ?T ?hk ?hp ?hd ?hu ?_
            case B => k_asm
            case F => k_asm
            case X => k_asm
            case N => exact NQ
            case T => k_asm
            case hk => first | exact rfl | assumption
            case hp => exact ⟨hc34, hNe _ _ (by assumption) (by assumption) (by assumption), Nat.le_trans (hRng _ (by assumption)) (by decide), Nat.le_trans (hRng _ (by assumption)) (by decide)⟩
            case hd => walk_at "MY room"
            case hu => walk_at "MY units"
            intro v14 add14 h14 tk14 hle14 hR14 F14 N14 hA14
            obtain ⟨rfl, td, rfl, htd1, htd2⟩ := hR14
            clear NQ hT12 hA14
            dsimp only at hle14 htd1 htd2 F14 N14 ⊢
            have htd0 : tk₁ ≤ td := by omega
            have hB6 : Tks [td + 1] tk14 := fun a ha => by rw [List.mem_singleton.mp ha]; exact htd2
            simp only [List.nil_append] at N14
            walk_at "MY steps"
            refine with_k (l := [td + 1]) (by walk_at "MY tk") ?_
            refine' cm_use (count_list_spec _ _ _ _ _ ar l kr _ _) ?B ?F ?X ?N ?T ?hk ?hp ?hd ?hu ?_
            case B => k_asm
            case F => k_asm
            case X => k_asm
            case N => k_asm
            case T => k_asm
            case hk => first | exact rfl | assumption
            case hp => exact ⟨by walk_at "MY mem", Nat.ne_of_gt (Nat.lt_of_lt_of_le P.tk1 htd0), fun p hp => ⟨(P.run p hp).1, Nat.ne_of_lt (Nat.lt_of_lt_of_le (P.run p hp).2 htd0)⟩⟩
            case hd => walk_at "MY room"
            case hu => walk_at "MY units"
            intro v15 add15 h15 tk15 hR15 F15 N15 hA15 hT15
            obtain ⟨rfl, tc, rfl⟩ := hR15
            simp only [List.nil_append] at N15
            clear hA15
            dsimp only at hT15 ⊢
            walk_at "MY steps7"
            rotate_right
            · -- there already
              rename Fr _ _ _ _ => F16
              rename News _ _ _ _ => N16
              rename Tks [td + 1] _ => hT16
              exact hRQ _ _ <| wstep_next F16 N16 (lt200 hq153) (P.stay hrs hpn (in_of hrs (by assumption)) htl2 hT2 OQ rfl (HI.mk rfl rfl) rfl rfl (Nat.le_trans htd0 (Nat.le_of_lt (by walk_at "MY hd"))))
            rename Fr _ _ _ _ => F16
            rename News _ _ _ _ => N16
            have hnot := out_of hrs (by assumption)
            refine cons_join [td + 1] (CellsXY hpn ss rs ws) F16 N16 (fun EJ => ?join) ?_
            case join =>
              walk_at "MY steps7"
              all_goals
                rename Fr _ _ _ _ => FJ
                rename News _ _ _ _ => NJ
                rename Tks [td + 1] _ => hTJ
                exact jstep_of FJ (News.sub NJ (fun p hp => List.mem_cons_of_mem _ hp)) hTJ (by first | exact cells_gt hpn hInv (by assumption) NJ (by assumption) (by assumption) | exact cells_le hpn hInv (by assumption) NJ (by assumption) (by assumption))
            clear F16 N16
            intro h16 tk16 o4' o5' F16 N16 hT16 hX16
            obtain ⟨LO, SH, t4, t5, hrow, hLl, hSl, hLw, hSw, hd4n, hd5n⟩ := hX16
            walk_at "MY steps"
            rename Fr _ _ _ _ => F16
            rename News _ _ _ _ => N16
            refine with_k (l := [td + 1]) (by walk_at "MY tk") ?_
            refine lc_assign (s := ⟨_, _, _, _, _⟩) (oc := false) (x := "k") rfl ⟨by with_unfolding_all rfl, rfl, by decide, fun _ => rfl, fun _ => rfl, rfl⟩ ?hsw ?hy ?hpw F16 ?_
            case hsw => with_unfolding_all exact rfl
            case hy => exact rfl
            case hpw => exact rfl
            walk_at "MY steps"
            rename Fr _ _ _ _ => F17
            rename News _ _ _ _ => N17
            rename IsRange _ _ _ _ _ _ _ _ => R17
            rename Heap => h17
            refine ⟨F17, ss.length, _, .inr ⟨_, 0, _, _, _, _, rfl, R17, range_l (by omega), by rw [rangeSize_nat]; simp, rfl⟩, by rw [sizeLine_eq]; omega, fun k ys h tk => IntsL ys ((rowsub (ws.getD LO []) (ws.getD SH []) ss.length).take k), _, _, _, rfl, rfl, rfl, fun _ _ _ _ _ _ r _ _ => r, IntsL.nil, ?turnW, ?finW⟩
            case turnW =>
              intro k v ys h tk E' hk htk0 hP hJ hv _ _ _ kp
              obtain ⟨tv, rfl⟩ := hP
              obtain ⟨m9, hn9, hm9⟩ := hv
              have F18 := F17.keeps kp
              have N18 := N17.grown kp
              clear F17 N17 F16 N16
              have hc3 := cell_of N18 (by walk_at "MY memr") hd3
              have hc4 := cell_of N18 (by walk_at "MY memr") hd4n
              have hc5 := cell_of N18 (by walk_at "MY memr") hd5n
              refine wpAny_pure ⟨⟨h, tk, rfl, fun _ _ e => e⟩, ?_⟩
              simp only [if_true]
              have hB7 := Tks.one tk
              walk_at "MY steps"
              refine sub_spec w _ _ _ _ _ _ _ _ ?Xs ?hls ?hrs ?_
              case Xs => exact Frag.In.keeps (by k_asm) (Fr.keep F18)
              case hls => exact Heap.NoLimit.keeps (Top.nolimit (by k_asm)) (Fr.keep F18)
              case hrs => walk_at "MY room"
              intro h19 t19 k19 hk19 kp19
              refine ⟨⟨h19, _, rfl, kp19⟩, ?_⟩
              exact IntsL.snoc hJ (way_step (by assumption) (by assumption) (by omega))
            case finW =>
              intro h tk ysV kp hL hJ hns hT17
              obtain ⟨F19, N19⟩ := comp_stored F17 N17 (fun b o hb e => kp b o (fun q => hb (Option.some.inj q).symm) e) hns
              obtain ⟨N20, O20⟩ := led_add (add := [(h17.objs.size + 1, listOf ysV.toArray ysV.length)]) F17 N17 N19 OQ (fun p hp => by rw [List.mem_singleton.mp hp]; exact ⟨Nat.le_succ _, hL⟩)
              have hV := hV_of hrow hJ
              have hwnL := Nat.lt_succ_of_lt F17.ns.lt
              simp only [List.singleton_append] at N20 O20
              clear N19 N17 F17 F16 N16 kp hns
              walk_at "MY steps"
              refine with_k (l := [td + 1]) (by walk_at "MY tk") ?_
              refine lc_eval (s := ⟨_, _, _, _, _⟩) (oc := false) (x := "k") rfl ⟨by with_unfolding_all rfl, rfl, by decide, fun _ => rfl, fun _ => rfl, rfl⟩ ?_
              walk_at "MY steps"
              rename Fr _ _ _ _ => F21
              rename News _ _ _ _ => N21
              rename IsRange _ _ _ _ _ _ _ _ => R21
              rename Heap => h21
              refine ⟨l.length, _, .inr ⟨_, 0, _, _, _, _, rfl, R21, range_l (by omega), by rw [rangeSize_nat]; simp, rfl⟩, by rw [sizeLine_eq]; omega, fun k ys h tk => PairsJ (h21.objs.size + 2) ((List.range k).map fun j => (j, rs.length)) ys h, _, _, _, rfl, rfl, rfl, fun _ _ _ _ _ _ r _ kk => r.keeps fun b o hb _ e => kk b o hb e, PairsJ.nil, ?turnP, ?finP⟩
              case turnP =>
                intro k v ys h tk E' hk htk0 hP hJ hv _ _ _ kp
                obtain ⟨tv, rfl⟩ := hP
                obtain ⟨m9, hn9, hm9⟩ := hv
                rw [Int.zero_add] at hm9
                have F22 := F21.keeps kp
                have N22 := N21.grown kp
                clear F21 N21 F19 N20
                have hc2 := cell_of N22 (by walk_at "MY memr") hd2
                refine wpAny_pure ⟨⟨h, tk, rfl, fun _ _ e => e⟩, ?_⟩
                simp only [if_true]
                have hB7 := Tks.one tk
                have hlt : h21.objs.size + 2 < h.objs.size := hn9.lt
                walk_at "MY steps2"
                refine wpAny_newTuple ?_ (by show 2 ≤ sizeLine; rw [sizeLine_eq]; decide)
                refine ⟨⟨_, _, rfl, fun b o e => Heap.get?_push_of_some _ e⟩, ?_⟩
                show PairsJ _ ((List.range (k + 1)).map fun j => (j, rs.length)) _ _
                rw [List.range_succ, List.map_append]
                exact (hJ.keeps fun b o _ _ e => Heap.get?_push_of_some _ e).snoc hlt (Heap.get?_push_size _ rfl) ⟨_, _, _, by rw [hlrs]⟩
              case finP =>
                intro h tk ysT kp hL hJ hT18
                obtain ⟨tl3, htl3, hall3, hlen3, htup3⟩ := hJ
                have F22 := F21.keeps (fun b o e => kp b o (fun q => nomatch q) e)
                have N22 := N21.grown (fun b o e => kp b o (fun q => nomatch q) e)
                subst htl3
                obtain ⟨N23, O23⟩ := led_add (add := (h21.objs.size + 1, listOf (refs tl3) (tl3.map fun p : Addr × Obj => Value.ref p.1).length) :: tl3) F21 N21 N22 O20 (fun p hp => by
                  rcases List.mem_cons.mp hp with rfl | hp
                  · exact ⟨Nat.le_succ _, hL⟩
                  · exact ⟨Nat.le_of_lt (Nat.lt_of_le_of_lt (Nat.le_add_right _ 2) (hall3 p hp).1), (hall3 p hp).2.1⟩)
                have hl3 : tl3.length = l.length := by rw [hlen3, List.length_map, List.length_range]
                have hT3 : TupsAre tl3 ((List.range rs.length).map fun k => (k, rs.length)) := by rw [hlrs]; rw [hlrs] at htup3 hlen3; exact ⟨hlen3, htup3⟩
                simp only [List.cons_append] at N23 O23
                clear N21 F21 N22 kp hL F19 N20
                walk_at "MY steps"
                rename News _ _ _ ((_, listOf (refs (_ ++ _)) _) :: _) => N24
                rename (∀ p : Addr × Obj, p ∈ _ → p.1 < _) => l24
                obtain ⟨N25, O25⟩ := led_front N24 O23 l24
                clear N24 l24
                walk_at "MY steps3"
                refine app_runs (by k_asm) (by k_asm) O25 (by omega) ?_
                intro h26 F26 N26
                clear N25
                (try dsimp only)
                walk_at "MY steps3"
                refine app_ways (p := (h17.objs.size + 1, listOf ysV.toArray ysV.length)) (by k_asm) (by k_asm) O25 (by omega) ?_
                intro h27 F27 N27
                clear N26 F26
                (try dsimp only)
                walk_at "MY steps3"
                rename Tks [td + 1] _ => hT26
                refine hRQ _ _ <| wstep_next F27 N27 (lt200 hq153) ?_
                have hG := fun m' tk' dq up hdq hwm ht3 => P.grow (m' := m') (tk' := tk') (dq := dq) (kq' := 0) (kr' := kr + 1) (kw' := kw + 1) (td := td) (wn := (h17.objs.size + 1, listOf ysV.toArray ysV.length)) (its := ysV.toArray) (kk := ysV.length) hrs hpn hnot htl2 hT2 hT3 ⟨_, hd4n⟩ ⟨_, hd5n⟩ rfl hV up hdq hwm ht3 O25
                have hG2 := fun m' tk' => hG m' tk' _ (fun p hp => List.mem_cons_of_mem _ (List.mem_cons_of_mem _ (List.mem_append_right _ (List.mem_cons_of_mem _ (List.mem_cons_of_mem _ hp))))) List.mem_cons_self ⟨List.mem_cons_of_mem _ (List.mem_cons_of_mem _ (List.mem_append_right _ List.mem_cons_self)), hwnL⟩ (fun p hp => List.mem_cons_of_mem _ (List.mem_cons_of_mem _ (List.mem_append_left _ hp)))
                clear hG
                refine hG2 _ _ ?gw ?gt ?gs ?gp htd0 ?gk
                case gw => rfl
                case gt => exact HI.mk rfl rfl
                case gs => rfl
                case gp => rfl
                case gk => exact hT26.hd
end Mine

-- part LawK
namespace Mine
set_option maxRecDepth 100000
set_option maxHeartbeats 4000000
section
variable {prog : Program} {w : World} {A : Around} {E : Value → Shared → Prop} {s : Shared} {h₀ : Heap} {L : Addr} {m : Str → Option Value} {news : List (Addr × Obj)} {value slice : PySem.Expr} {a b : Addr} {i : Int} {u : Tok} {Q : Value → Shared → Prop}
theorem sl_zz {n k p q : Nat} (F : Fr h₀ L s.heap m) (N : News h₀ L s.heap news) (hm : (a, listOf #[Value.int 0 p, Value.int 0 q] k) ∈ news) (h2 : n ≤ 2)
    (h : ∀ D zs h', Fr h₀ L h' m → News h₀ L h' ((D, listOf (List.toArray zs) 0) :: news) → (∀ p ∈ news, p.1 < D) → IntsAre zs (List.replicate (2 - n) 0) → Q (.ref D) { s with heap := h' })
    (hs : subscripted slice false (.ref a) (.ref s.heap.objs.size) = operate [.ref s.heap.objs.size, .ref a] (getItem (.ref a) (.ref s.heap.objs.size)) := by with_unfolding_all rfl) (ht : ∀ r, letTemporaryGo value (.ref a) r = pure () := by intro _; with_unfolding_all rfl) :
    wpAny (model prog w) A (subscriptTail value slice (.ref a) (.ref s.heap.objs.size)) Q E { s with heap := s.heap.push { cls := .type "slice", data := .fields #[.int (n : Int) u, .none, .none] } } := by
  refine kms_slice_lit (zs := [Value.int 0 p, Value.int 0 q].drop n) F N (isList_of N hm) (.int n u) .none ?_ (fun D h' F' N' l' => h D _ h' F' N' l' ?_) hs ht (by rw [sizeLine_eq]; simp)
  · simp only [kms_pick, kms_lo, kms_hi]
    rw [if_neg (by omega)]
    have e : (n : Int).toNat = n := rfl
    rw [e]
    have e2 : ([Value.int 0 p, Value.int 0 q] : List Value).length = 2 := rfl
    rw [e2, Nat.min_eq_left h2, List.take_of_length_le (by rw [List.length_drop]; exact Nat.le_refl _)]
  · have h3 : n = 0 ∨ n = 1 ∨ n = 2 := by omega
    rcases h3 with rfl | rfl | rfl
    · exact .cons 0 p (.cons 0 q .nil)
    · exact .cons 0 q .nil
    · exact .nil
theorem ni_ints {vs : List Value} {k : Nat} {ns : List Int} {x : Int} (N : News h₀ L s.heap news) (hm : (a, listOf vs.toArray k) ∈ news) (hi : IntsAre vs ns) (h1 : x ∉ ns → Q (.bool true) s) (h2 : x ∈ ns → Q (.bool false) s) :
    wpAny (model prog w) A (compareOp .NotIn (.int x u) (.ref a)) Q E s := by
  refine notin_list_ints (isList_of N hm) hi ?_
  by_cases hx : x ∈ ns
  · have e : ns.any (· == x) = true := List.any_eq_true.mpr ⟨x, hx, by simp⟩
    rw [e]; exact h2 hx
  · have e : ns.any (· == x) = false := by
      rw [List.any_eq_false]
      intro y hy
      have : y ≠ x := fun q => hx (q ▸ hy)
      simpa using this
    rw [e]; exact h1 hx
theorem ia_ints {vs : List Value} {ns : List Int} (h : IntsAre vs ns) : Ints vs.toArray ns := by
  refine ⟨by simp [h.length], fun i x hx => ?_⟩
  obtain ⟨t, e⟩ := h.get i x hx
  exact ⟨t, by simpa using e⟩
theorem mk_bd {r r2 : Int} (a : 0 ≤ r) (b : r < 2) (c : 0 ≤ r2) (d : r2 < 9) : 1 ≤ (1 + r) * (1 + r2) ∧ (1 + r) * (1 + r2) ≤ 18 := by
  have h : r = 0 ∨ r = 1 := by omega
  rcases h with rfl | rfl <;> omega
theorem snoc_nodup {st : List Int} {x : Int} (h : st.Nodup) (hx : x ∉ st) : (st ++ [x]).Nodup := by
  rw [List.nodup_append]
  exact ⟨h, by simp, fun u hu v hv => by rw [List.mem_singleton.mp hv]; rintro rfl; exact hx hu⟩
end
/-- the starts, as far as they are drawn -/
structure StOk (i : Nat) (st : List Int) : Prop where
  nd : st.Nodup
  bd : ∀ z ∈ st, 1 ≤ z ∧ z ≤ 18
  le : st.length ≤ i
  ge : 0 < i → 0 < st.length
theorem StOk.nil : StOk 0 [] := ⟨by simp, by simp, Nat.le_refl _, fun h => absurd h (Nat.lt_irrefl _)⟩
theorem StOk.same {i : Nat} {st : List Int} {x : Int} (h : StOk i st) (hx : x ∈ st) : StOk (i + 1) st := ⟨h.nd, h.bd, Nat.le_succ_of_le h.le, fun _ => by cases st with | nil => cases hx | cons a r => simp⟩
theorem StOk.snoc {i : Nat} {st : List Int} {x : Int} (h : StOk i st) (hx : x ∉ st) (hb : 1 ≤ x ∧ x ≤ 18) : StOk (i + 1) (st ++ [x]) := by
  refine ⟨snoc_nodup h.nd hx, fun z hz => ?_, by rw [List.length_append]; exact Nat.succ_le_succ h.le, fun _ => by simp⟩
  rcases List.mem_append.mp hz with hz | hz
  · exact h.bd z hz
  · rw [List.mem_singleton.mp hz]; exact hb
theorem drawn_ok {vs : List Value} {ns : List Int} (h : IntsAre vs (List.take 4 ns ++ List.replicate (2 - (List.take 2 ns).length) 0)) : ∃ dr : List Int, IntsAre vs dr ∧ 0 < dr.length ∧ dr.length ≤ 4 ∧ vs.toArray.size = dr.length := by
  refine ⟨_, h, ?_, ?_, by have := h.length; simp only [List.size_toArray]; omega⟩
  · rw [List.length_append, List.length_replicate, List.length_take, List.length_take]; omega
  · rw [List.length_append, List.length_replicate, List.length_take, List.length_take]; omega
structure LawJ (L1 ad : Addr) (wd : List Value) (kd : Nat) (tot : Int) (tt : Tok) (sv sc : Value) (i : Nat) (m : Str → Option Value) (nw : List (Addr × Obj)) (oC : Obj) (a : Addr) (vs : List Value) (kk : Nat) (st : List Int) (rest : List (Addr × Obj)) : Prop where
  eq : nw = (L1, oC) :: rest
  dC : oC.data = Data.cell (some (Value.ref a))
  am : (a, listOf vs.toArray kk) ∈ rest
  ia : IntsAre vs st
  ok : StOk i st
  ne : ∀ p ∈ rest, p.1 ≠ L1
  dm : (ad, listOf wd.toArray kd) ∈ rest
  mt : m "total" = some (Value.int tot tt)
  md : m "drawn" = some (Value.ref ad)
  ms : m "sign" = some sv
  mc : m "script" = some sc
def LawE (L1 ad : Addr) (wd : List Value) (kd : Nat) (tot : Int) (tt : Tok) (sv sc : Value) (i : Nat) (m : Str → Option Value) (nw : List (Addr × Obj)) : Prop := ∃ oC a vs kk st rest, LawJ L1 ad wd kd tot tt sv sc i m nw oC a vs kk st rest
section
variable {prog : Program} {w : World} {A : Around} {E : Value → Shared → Prop} {Q : Flow → Shared → Prop} {s : Shared} {env : Env} {h₀ : Heap} {x : Str} {body : List Stmt}
theorem loop_law {r : Addr} {t u v : Tok} {n : Nat} {m : Str → Option Value} {news : List (Addr × Obj)} {L1 ad : Addr} {wd : List Value} {kd : Nat} {tot : Int} {tt : Tok} {sv sc : Value} (hh : A.handled = none)
    (F : Fr h₀ env.locals s.heap m) (N : News h₀ env.locals s.heap news) (hr : IsRange s.heap r 0 n 1 t u v) (hsm : Builtin.Range.small 0 n 1 = true) (hn : Builtin.Range.rangeSize 0 n 1 = (n : Int)) (h0 : LawE L1 ad wd kd tot tt sv sc 0 m news)
    (step : ∀ i t m₁ h₁ tk₁ I oI oC a vs kk st rest, i < n → LawJ L1 ad wd kd tot tt sv sc i m₁ ((L1, oC) :: rest) oC a vs kk st rest → (∀ p ∈ (L1, oC) :: rest, p.1 ≠ I) → Fr h₀ env.locals h₁ (fun y => if y = x then some (.int (i : Int) t) else m₁ y) → News h₀ env.locals h₁ ((I, oI) :: (L1, oC) :: rest) →
      wpAny (model prog w) A (execs body env) (FStep h₀ env.locals I oI s (fun m nw _ => LawE L1 ad wd kd tot tt sv sc (i + 1) m nw) Q) E { s with heap := h₁, toks := tk₁ })
    (fin : ∀ h' tk m' oC a vs kk st rest, Fr h₀ env.locals h' m' → News h₀ env.locals h' ((L1, oC) :: rest) → LawJ L1 ad wd kd tot tt sv sc n m' ((L1, oC) :: rest) oC a vs kk st rest → Q .next { s with heap := h', toks := tk }) :
    wpAny (model prog w) A (pyIter (.ref r)) (fun it s₂ => LoopT prog w A h₀ env x body Q E it s₂) E s := by
  refine loop_range (fun i m nw _ => LawE L1 ad wd kd tot tt sv sc i m nw) hh F N hr hsm hn h0 (fun _ _ _ _ _ _ h => h) ?_ ?_
  · rintro i v m₁ nw h₁ tk₁ I oI hi ⟨t, rfl⟩ ⟨oC, a, vs, kk, st, rest, J⟩ hI F2 N2
    obtain rfl := J.eq
    rw [Int.zero_add] at F2
    exact step i t m₁ h₁ tk₁ I oI oC a vs kk st rest hi J hI F2 N2
  · rintro h' tk m' nw F' N' ⟨oC, a, vs, kk, st, rest, J⟩
    obtain rfl := J.eq
    exact fin h' tk m' oC a vs kk st rest F' N' J
end
theorem updC {I L1 : Addr} {oI oC : Obj} {rest : List (Addr × Obj)} (hI : ∀ p ∈ (L1, oC) :: rest, p.1 ≠ I) (hr : ∀ p ∈ rest, p.1 ≠ L1) : UpdF L1 oC ((I, oI) :: (L1, oC) :: rest) (fun o => (I, oI) :: (L1, o) :: rest) :=
  .tail (Ne.symm (hI _ List.mem_cons_self)) (.head hr)
theorem lawE_start {h₀ h : Heap} {L L1 l' D' : Addr} {m : Str → Option Value} {wd : List Value} {oC : Obj} {e1 e2 e3 e4 : Addr × Obj} {tot : Int} {tt : Tok} {sv sc : Value} (_ : Fr h₀ L h m) (N : News h₀ L h [(l', listOf #[] 0), (D', listOf wd.toArray 0), e1, e2, e3, e4, (L1, oC)]) (d : oC.data = Data.cell (some (Value.ref l'))) (hl : l' ≠ L1) (hD : D' ≠ L1)
    (mt : m "total" = some (Value.int tot tt)) (md : m "drawn" = some (Value.ref D')) (ms : m "sign" = some sv) (mc : m "script" = some sc) :
    News h₀ L h ((L1, oC) :: [(l', listOf #[] 0), (D', listOf wd.toArray 0)]) ∧ LawE L1 D' wd 0 tot tt sv sc 0 m ((L1, oC) :: [(l', listOf #[] 0), (D', listOf wd.toArray 0)]) := by
  refine ⟨News.sub N fun p hp => ?_, oC, l', [], 0, [], _, rfl, d, List.mem_cons_self, .nil, StOk.nil, ?_, by simp, mt, md, ms, mc⟩
  · simp only [List.mem_cons, List.not_mem_nil, or_false] at hp ⊢
    rcases hp with h | h | h <;> simp [h]
  · intro p hp
    simp only [List.mem_cons, List.not_mem_nil, or_false] at hp
    rcases hp with rfl | rfl
    · exact hl
    · exact hD
theorem IntsAre.app {a b : List Value} {x y : List Int} (h : IntsAre a x) (h2 : IntsAre b y) : IntsAre (a ++ b) (x ++ y) := by
  induction h with
  | nil => exact h2
  | cons n t _ ih => exact .cons n t ih
theorem add_li {prog : Program} {w : World} {A : Around} {E : Value → Shared → Prop} {s : Shared} {h₀ : Heap} {L a b : Addr} {m : Str → Option Value} {news : List (Addr × Obj)} {Q : Value → Shared → Prop} {vs : List Value} {kk k2 t : Nat} {st : List Int} {x : Int}
    (F : Fr h₀ L s.heap m) (N : News h₀ L s.heap news) (hm : (a, listOf vs.toArray kk) ∈ news) (hia : IntsAre vs st) (hm2 : (b, listOf #[Value.int x t] k2) ∈ news) (hz : st.length ≤ 1000)
    (h : ∀ D vs' h', Fr h₀ L h' m → News h₀ L h' ((D, listOf (List.toArray vs') 0) :: news) → (∀ p ∈ news, p.1 < D) → IntsAre vs' (st ++ [x]) → Q (.ref D) { s with heap := h' }) :
    wpAny (model prog w) A (binaryOp .Add (.ref a) (.ref b)) Q E s := by
  have hl := hia.length
  refine add_lists (vs := vs) (ws := [Value.int x t]) F N (isList_of N hm) (isList_of N hm2) (fun h' F' N' => h _ _ h' F' N' (fun p hp => Heap.lt_size (N p hp).1) (IntsAre.app hia (.cons x t .nil))) (by rw [sizeLine_eq]; simp only [List.length_singleton]; omega)
theorem lawE_same {L1 ad a : Addr} {wd vs : List Value} {kd kk i : Nat} {tot x : Int} {tt : Tok} {sv sc : Value} {m m' : Str → Option Value} {oC : Obj} {st : List Int} {rest nw : List (Addr × Obj)} (J : LawJ L1 ad wd kd tot tt sv sc i m nw oC a vs kk st rest) (hx : x ∈ st)
    (mt : m' "total" = some (Value.int tot tt)) (md : m' "drawn" = some (Value.ref ad)) (ms : m' "sign" = some sv) (mc : m' "script" = some sc) : LawE L1 ad wd kd tot tt sv sc (i + 1) m' ((L1, oC) :: rest) :=
  ⟨oC, a, vs, kk, st, rest, rfl, J.dC, J.am, J.ia, J.ok.same hx, J.ne, J.dm, mt, md, ms, mc⟩
theorem lawE_add {h₀ h : Heap} {L L1 ad a D l' I : Addr} {wd vs vs' : List Value} {kd kk i : Nat} {tot x : Int} {tt : Tok} {sv sc : Value} {m m' : Str → Option Value} {oC oC' oI o2 : Obj} {st : List Int} {rest nw : List (Addr × Obj)} (J : LawJ L1 ad wd kd tot tt sv sc i m nw oC a vs kk st rest)
    (_ : Fr h₀ L h m') (N : News h₀ L h ((D, listOf vs'.toArray 0) :: (l', o2) :: (I, oI) :: (L1, oC') :: rest)) (dC : oC'.data = Data.cell (some (Value.ref D))) (hI : ∀ p ∈ (L1, oC) :: rest, p.1 ≠ I) (hD : ∀ p ∈ (l', o2) :: (I, oI) :: (L1, oC) :: rest, p.1 < D) (ia : IntsAre vs' (st ++ [x])) (hx : x ∉ st) (hb : 1 ≤ x ∧ x ≤ 18)
    (mt : m' "total" = some (Value.int tot tt)) (md : m' "drawn" = some (Value.ref ad)) (ms : m' "sign" = some sv) (mc : m' "script" = some sc) :
    News h₀ L h ((I, oI) :: (L1, oC') :: (D, listOf vs'.toArray 0) :: rest) ∧ (∀ p ∈ (L1, oC') :: (D, listOf vs'.toArray 0) :: rest, p.1 ≠ I) ∧ LawE L1 ad wd kd tot tt sv sc (i + 1) m' ((L1, oC') :: (D, listOf vs'.toArray 0) :: rest) := by
  have h1 : I < D := hD (I, oI) (by simp)
  have h2 : L1 < D := hD (L1, oC) (by simp)
  refine ⟨News.sub N fun p hp => ?_, fun p hp => ?_, oC', D, vs', 0, st ++ [x], _, rfl, dC, List.mem_cons_self, ia, J.ok.snoc hx hb, fun p hp => ?_, List.mem_cons_of_mem _ J.dm, mt, md, ms, mc⟩
  · simp only [List.mem_cons] at hp ⊢
    rcases hp with h | h | h | h <;> simp [h]
  · rcases List.mem_cons.mp hp with rfl | hp
    · exact hI (L1, oC) List.mem_cons_self
    · rcases List.mem_cons.mp hp with rfl | hp
      · exact Nat.ne_of_gt h1
      · exact hI p (List.mem_cons_of_mem _ hp)
  · rcases List.mem_cons.mp hp with rfl | hp
    · exact Nat.ne_of_gt h2
    · exact J.ne p hp
theorem IntsL.push {ys : List Value} {xs : List Int} {z : Int} {t : Nat} (h : IntsL ys xs) : IntsL (ys ++ [Value.int z t]) (xs ++ [z]) := by
  have e : (xs ++ [z]).take xs.length = xs := by rw [List.take_append_of_le_length (Nat.le_refl _), List.take_length]
  have h2 := IntsL.snoc (i := xs.length) (xs := xs ++ [z]) (z := z) (t := t) (by rw [e]; exact h) (by rw [List.getElem?_append_right (Nat.le_refl _)]; simp)
  rwa [List.take_of_length_le (by rw [List.length_append]; exact Nat.le_refl _)] at h2
theorem ia_of : ∀ {ys : List Value} {xs : List Int}, IntsL ys xs → IntsAre ys xs
  | [], [], _ => .nil
  | [], x :: xs, h => by have := h.1; simp at this
  | y :: ys, [], h => by have := h.1; simp at this
  | y :: ys, x :: xs, h => by
    obtain ⟨t, e⟩ := h.2 0 x rfl
    have e : y = Value.int x t := by simpa using e
    subst e
    exact .cons x t (ia_of ⟨by have := h.1; simpa using this, fun i z hz => h.2 (i + 1) z (by simpa using hz)⟩)
def PickJ (i : Nat) (ys : List Value) : Prop := ∃ xs : List Int, xs.length = i ∧ IntsL ys xs
theorem PickJ.nil : PickJ 0 [] := ⟨[], rfl, rfl, by simp⟩
theorem PickJ.push {i : Nat} {ys : List Value} {z : Int} {t : Nat} (h : PickJ i ys) : PickJ (i + 1) (ys ++ [Value.int z t]) := by
  obtain ⟨xs, a, b⟩ := h
  exact ⟨xs ++ [z], by simp [a], b.push⟩
end Mine

-- part LawK2
namespace Mine
set_option maxRecDepth 100000
set_option maxHeartbeats 4000000
section
variable {prog : Program} {w : World} {A : Around} {E : Value → Shared → Prop} {s : Shared} {h₀ : Heap} {L : Addr} {news : List (Addr × Obj)} {value slice : PySem.Expr} {a : Addr} {u : Tok} {Q : Value → Shared → Prop}
theorem it_ways2 {wl rest : List (Addr × Obj)} {ws : List (List Int)} {k n : Nat} (N : News h₀ L s.heap news) (hm : (a, listOf (refs wl) k) ∈ news) (hR : RowsAre wl ws) (hW : ∀ p ∈ wl, p ∈ rest) (h1 : n < ws.length) (h2 : ws.length ≤ 10000)
    (h : ∀ (b : Addr) its kk, (b, listOf its kk) ∈ rest → Ints its (ws.getD n []) → Q (.ref b) s)
    (hs : subscripted slice false (.ref a) (.int (n : Int) u) = operate [.ref a, .int (n : Int) u] (getItem (.ref a) (.int (n : Int) u)) := by with_unfolding_all rfl) :
    wpAny (model prog w) A (subscriptTail value slice (.ref a) (.int (n : Int) u)) Q E s := by
  have e : ws[n]? = some (ws.getD n []) := by rw [List.getD_eq_getElem?_getD, List.getElem?_eq_getElem h1]; rfl
  obtain ⟨p, its, kk, c1, c2, c3⟩ := hR.2 _ _ e
  have hp := hW p (List.mem_of_getElem? c1)
  exact item_l (isList_of N hm) (by omega) (by omega) (refs_get c1) (h p.1 its kk (by rw [← c2]; exact hp) c3) hs
end
def szs (l : List (Nat × Nat)) : List Int := l.map fun p => (p.1 : Int)
theorem szs_take {l : List (Nat × Nat)} {i : Nat} {n t : Nat} (h : l[i]? = some (n, t)) : (szs l).take (i + 1) = (szs l).take i ++ [(n : Int)] := by
  rw [List.take_add_one, szs, List.getElem?_map, h]; rfl
theorem szs_len (l : List (Nat × Nat)) : (szs l).length = l.length := by simp [szs]
/-- the loop over the runs -/
structure RJ (L1 a ar aw : Addr) (kk0 kr kw : Nat) (vs : List Value) (l : List (Nat × Nat)) (wl : List (Addr × Obj)) (i : Nat) (m : Str → Option Value) (nw : List (Addr × Obj)) (tk : Nat) (oC : Obj) (b : Addr) (zs : List Value) (kz : Nat) (rest : List (Addr × Obj)) : Prop where
  eq : nw = (L1, oC) :: rest
  dC : oC.data = Data.cell (some (Value.ref a))
  am : (a, listOf vs.toArray kk0) ∈ rest
  rm : (ar, listOf (runArr l) kr) ∈ rest
  wm : (aw, listOf (refs wl) kw) ∈ rest
  wl : ∀ p ∈ wl, p ∈ rest
  zm : (b, listOf zs.toArray kz) ∈ rest
  zi : IntsAre zs ((szs l).take i)
  mr : m "runs" = some (Value.ref ar)
  mw : m "ways" = some (Value.ref aw)
  mz : m "sizes" = some (Value.ref b)
  t1 : 1 ≤ tk
def RE (L1 a ar aw : Addr) (kk0 kr kw : Nat) (vs : List Value) (l : List (Nat × Nat)) (wl : List (Addr × Obj)) (i : Nat) (m : Str → Option Value) (nw : List (Addr × Obj)) (tk : Nat) : Prop := ∃ oC b zs kz rest, RJ L1 a ar aw kk0 kr kw vs l wl i m nw tk oC b zs kz rest
section
variable {prog : Program} {w : World} {A : Around} {E : Value → Shared → Prop} {Q : Flow → Shared → Prop} {s : Shared} {env : Env} {h₀ : Heap} {x : Str} {body : List Stmt}
theorem loop_runs {r : Addr} {t u v : Tok} {n : Nat} {m : Str → Option Value} {news : List (Addr × Obj)} {L1 a ar aw : Addr} {kk0 kr kw : Nat} {vs : List Value} {l : List (Nat × Nat)} {wl : List (Addr × Obj)} (hh : A.handled = none)
    (F : Fr h₀ env.locals s.heap m) (N : News h₀ env.locals s.heap news) (hr : IsRange s.heap r 0 n 1 t u v) (hsm : Builtin.Range.small 0 n 1 = true) (hn : Builtin.Range.rangeSize 0 n 1 = (n : Int)) (h0 : RE L1 a ar aw kk0 kr kw vs l wl 0 m news s.toks)
    (step : ∀ i t m₁ h₁ tk₁ I oI oC b zs kz rest, i < n → RJ L1 a ar aw kk0 kr kw vs l wl i m₁ ((L1, oC) :: rest) tk₁ oC b zs kz rest → (∀ p ∈ (L1, oC) :: rest, p.1 ≠ I) → Fr h₀ env.locals h₁ (fun y => if y = x then some (.int (i : Int) t) else m₁ y) → News h₀ env.locals h₁ ((I, oI) :: (L1, oC) :: rest) →
      wpAny (model prog w) A (execs body env) (FStep h₀ env.locals I oI s (fun m nw tk => RE L1 a ar aw kk0 kr kw vs l wl (i + 1) m nw tk) Q) E { s with heap := h₁, toks := tk₁ })
    (fin : ∀ h' tk m' oC b zs kz rest, Fr h₀ env.locals h' m' → News h₀ env.locals h' ((L1, oC) :: rest) → RJ L1 a ar aw kk0 kr kw vs l wl n m' ((L1, oC) :: rest) tk oC b zs kz rest → Q .next { s with heap := h', toks := tk }) :
    wpAny (model prog w) A (pyIter (.ref r)) (fun it s₂ => LoopT prog w A h₀ env x body Q E it s₂) E s := by
  refine loop_range (fun i m nw tk => RE L1 a ar aw kk0 kr kw vs l wl i m nw tk) hh F N hr hsm hn h0 ?_ ?_ ?_
  · rintro i m' nw tk tk' hle ⟨oC, b, zs, kz, rest, J⟩
    exact ⟨oC, b, zs, kz, rest, { J with t1 := Nat.le_trans J.t1 hle }⟩
  · rintro i v m₁ nw h₁ tk₁ I oI hi ⟨t, rfl⟩ ⟨oC, b, zs, kz, rest, J⟩ hI F2 N2
    obtain rfl := J.eq
    rw [Int.zero_add] at F2
    exact step i t m₁ h₁ tk₁ I oI oC b zs kz rest hi J hI F2 N2
  · rintro h' tk m' nw F' N' ⟨oC, b, zs, kz, rest, J⟩
    obtain rfl := J.eq
    exact fin h' tk m' oC b zs kz rest F' N' J
end
theorem runs_start {h₀ h : Heap} {L L1 a ar aw b D : Addr} {kk0 kr kw : Nat} {vs : List Value} {l : List (Nat × Nat)} {wl rest : List (Addr × Obj)} {m : Str → Option Value} {oC oD : Obj} {e1 e2 e3 e4 : Addr × Obj} {tk : Nat} (_ : Fr h₀ L h m)
    (N : News h₀ L h ((b, listOf #[] 0) :: (D, oD) :: (ar, listOf (runArr l) kr) :: (aw, listOf (refs wl) kw) :: (wl ++ e1 :: e2 :: e3 :: e4 :: (L1, oC) :: rest))) (d : oC.data = Data.cell (some (Value.ref a))) (am : (a, listOf vs.toArray kk0) ∈ rest)
    (mr : m "runs" = some (Value.ref ar)) (mw : m "ways" = some (Value.ref aw)) (mz : m "sizes" = some (Value.ref b)) (t1 : 1 ≤ tk) :
    News h₀ L h ((L1, oC) :: (b, listOf #[] 0) :: (ar, listOf (runArr l) kr) :: (aw, listOf (refs wl) kw) :: (wl ++ rest)) ∧ RE L1 a ar aw kk0 kr kw vs l wl 0 m ((L1, oC) :: (b, listOf #[] 0) :: (ar, listOf (runArr l) kr) :: (aw, listOf (refs wl) kw) :: (wl ++ rest)) tk := by
  refine ⟨News.sub N fun p hp => ?_, oC, b, [], 0, _, rfl, d, ?_, ?_, ?_, fun p hp => ?_, List.mem_cons_self, .nil, mr, mw, mz, t1⟩
  · simp only [List.mem_cons, List.mem_append] at hp ⊢
    rcases hp with h | h | h | h | h | h <;> simp [h]
  · simp [am]
  · simp
  · simp
  · simp [hp]
end Mine

-- part LawK3
namespace Mine
set_option maxRecDepth 100000
set_option maxHeartbeats 4000000
section
variable {prog : Program} {w : World} {A : Around} {E : Value → Shared → Prop} {s : Shared}
/-- one test -/
theorem tests_one {c : Expr} {cenv : Env} {Q : Bool → Shared → Prop} (h : wpAny (model prog w) A (isTrue c cenv (eval c cenv)) Q E s) : Tests prog w A [c] cenv Q E s := by
  unfold Tests
  rw [List.forIn_cons]
  refine wpAny_bind ?_
  rw [if_pos rfl]
  refine wpAny_bind (wpAny_mono h (fun ok s₃ q => wpAny_pure ?_) fun _ _ e => e)
  dsimp only
  rw [List.forIn_nil]
  exact wpAny_pure q
variable {h₀ : Heap} {L : Addr} {m : Str → Option Value} {news : List (Addr × Obj)} {a b : Addr}
theorem eq_empty {its : Array Value} {n n2 : Nat} {Q : Value → Shared → Prop} (N : News h₀ L s.heap news) (ha : (a, listOf its n) ∈ news) (hb : (b, listOf #[] n2) ∈ news) (hu : A.units < cLine) (bb : Bool)
    (hbb : (its.size == 0) = bb) (h : Q (.bool bb) s) : wpAny (model prog w) A (compareOp .Eq (.ref a) (.ref b)) Q E s := by
  have hl := (N _ ha).1
  have hr := (N _ hb).1
  subst hbb
  by_cases hz : its.size = 0
  · have e : (its.size == 0) = true := by simp [hz]
    rw [e] at h
    refine PySem.P.eq_list (e := fun _ => true) hl hr hz (fun j h1 _ => absurd h1 (by omega)) hu ?_
    rw [hz]
    exact h
  · have e : (its.size == 0) = false := by simpa using hz
    rw [e] at h
    exact PySem.P.eq_list_lengths hl hr (by simpa using hz) hu h
theorem it_last {value slice : PySem.Expr} {vs : List Value} {ns : List Int} {x : Int} {k : Nat} {u : Tok} {Q : Value → Shared → Prop} (N : News h₀ L s.heap news) (hm : (a, listOf vs.toArray k) ∈ news) (hi : IntsL vs ns) (hx : ns.getLast? = some x)
    (h : ∀ t, Q (.int x t) s)
    (hs : subscripted slice false (.ref a) (.int (-1) u) = operate [.ref a, .int (-1) u] (getItem (.ref a) (.int (-1) u)) := by with_unfolding_all rfl) :
    wpAny (model prog w) A (subscriptTail value slice (.ref a) (.int (-1) u)) Q E s := by
  have hne : ns ≠ [] := fun e => by rw [e] at hx; cases hx
  have hp : 0 < ns.length := List.length_pos_iff.mpr hne
  have hl := hi.1
  have e1 : ns[ns.length - 1]? = some x := by rw [← List.getLast?_eq_getElem?]; exact hx
  obtain ⟨t, e2⟩ := hi.2 _ _ e1
  have hL := isList_of N hm
  refine tail_any hL.typeIs slot_list_getitem.lookup (wpAny_getItem_list_neg hL (by decide) (by rw [List.size_toArray]; omega) (by decide) ?_ (h t)) hs
  rw [List.size_toArray]
  have e3 : ((-1 : Int) + (vs.length : Int)).toNat = ns.length - 1 := by omega
  rw [e3, List.getElem?_toArray]
  exact e2
theorem ia_range : ∀ (vs : List Value) (a c : Int) (n : Nat), vs.length = n → (∀ (j : Nat) (v : Value), vs[j]? = some v → ∃ t : Nat, v = .int (a + j * c) t) → IntsAre vs (rangeInts a c n) := by
  intro vs a c n e h
  refine ia_of ⟨by rw [rangeInts_length]; exact e, fun i x hx => ?_⟩
  have hi : i < n := by
    have := (List.getElem?_eq_some_iff.mp hx).1
    rwa [rangeInts_length] at this
  rw [rangeInts_get hi] at hx
  obtain rfl := Option.some.inj hx
  have e2 : vs[i]? = some vs[i] := List.getElem?_eq_getElem (by omega)
  obtain ⟨t, ht⟩ := h i _ e2
  exact ⟨t, by rw [e2, ht]⟩
theorem list_rng {r : Addr} {x y c : Int} {t u v : Tok} {n : Nat} {Q : Value → Shared → Prop} (hh : A.handled = none) (F : Fr h₀ L s.heap m) (N : News h₀ L s.heap news) (hr : IsRange s.heap r x y c t u v) (hsmall : Builtin.Range.small x y c = true) (hn : Builtin.Range.rangeSize x y c = (n : Int)) (hz : n ≤ 10000)
    (h : ∀ D us k h' tk, Fr h₀ L h' m → News h₀ L h' ((D, listOf (List.toArray us) k) :: news) → IntsAre us (rangeInts x c n) → Q (.ref D) { s with heap := h', toks := tk }) :
    wpAny (model prog w) A (call (.type "list") [.ref r]) Q E s := by
  refine PySem.call_list_range hh hr hsmall hn (by omega) fun h' tk acc k hk hD hI => ?_
  have hD' : h'.get? s.heap.objs.size = some (listOf (List.toArray acc.toList) k) := by
    rw [Array.toArray_toList]
    exact hD
  refine h _ acc.toList k h' tk (F.keeps hk) (news_pushed F N hk hD' rfl) (ia_range _ _ _ _ (by rw [Array.length_toList]; exact hI.1) fun j v hj => hI.2 j v (by rw [← hj, Array.getElem?_toList]))
end
theorem small_g {g M : Nat} (hg : 1 ≤ g) (hM : g ≤ M) (h : M ≤ 1000) : Builtin.Range.small (g : Int) ((M : Int) + 1) (g : Int) = true := by
  unfold Builtin.Range.small
  rw [rangeSize_g hg hM]
  have : M / g ≤ M := Nat.div_le_self _ _
  simp only [Builtin.Range.rangeFitsLong, Bool.and_eq_true, Bool.or_eq_true, decide_eq_true_eq, beq_iff_eq]
  have e : ((M / g : Nat) : Int) ≤ 1000 := by omega
  have e0 : 0 ≤ ((M / g : Nat) : Int) := Int.natCast_nonneg _
  generalize ((M / g : Nat) : Int) = q at e e0
  rw [if_pos (by omega)]
  simp only [Bool.and_eq_true, decide_eq_true_eq]
  omega
/-- the numbers that leave a rest -/
def NoRest (d : Int) (st : List Int) (i : Nat) (zs : List Value) : Prop := zs = [] ↔ ∀ n ∈ st.take i, n % d = 0
theorem NoRest.nil {d : Int} {st : List Int} : NoRest d st 0 [] := ⟨fun _ n h => by simp at h, fun _ => rfl⟩
theorem NoRest.yes {d z : Int} {st : List Int} {i : Nat} {zs : List Value} {v : Value} (_ : NoRest d st i zs) (hz : st[i]? = some z) (hd : z % d ≠ 0) : NoRest d st (i + 1) (zs ++ [v]) :=
  ⟨fun e => by simp at e, fun e => absurd (e z (by rw [List.take_add_one, hz]; simp)) hd⟩
theorem NoRest.no {d z : Int} {st : List Int} {i : Nat} {zs : List Value} (h : NoRest d st i zs) (hz : st[i]? = some z) (hd : z % d = 0) : NoRest d st (i + 1) zs := by
  unfold NoRest at *
  rw [h, List.take_add_one, hz]
  constructor
  · intro e n hn
    rcases List.mem_append.mp hn with hn | hn
    · exact e n hn
    · have : n = z := by simpa using hn
      rw [this]; exact hd
  · exact fun e n hn => e n (List.mem_append_left _ hn)
theorem NoRest.full {d : Int} {st : List Int} {zs : List Value} (h : NoRest d st st.length zs) (e : ∀ n ∈ st, n % d = 0) : (zs.toArray.size == 0) = true := by
  unfold NoRest at h
  rw [List.take_length] at h
  rw [h.mpr e]; rfl
theorem NoRest.rest {d : Int} {st : List Int} {zs : List Value} (h : NoRest d st st.length zs) (e : ¬ ∀ n ∈ st, n % d = 0) : (zs.toArray.size == 0) = false := by
  unfold NoRest at h
  rw [List.take_length] at h
  cases zs with
  | nil => exact absurd (h.mp rfl) e
  | cons a r => rfl
theorem shareds_zero (st : List Int) : shareds st 0 = [] := rfl
theorem shareds_yes {st : List Int} {i : Nat} (h : ∀ n ∈ st, n % (1 + (i : Int)) = 0) : shareds st (i + 1) = shareds st i ++ [1 + (i : Int)] := by
  unfold shareds
  rw [List.range_succ, List.map_append, List.filter_append]
  congr 1
  have : (st.all fun n => n % (1 + (i : Int)) == 0) = true := List.all_eq_true.mpr fun n hn => by simpa using h n hn
  simp only [List.map_cons, List.map_nil, List.filter_cons, this, if_true, List.filter_nil]
theorem shareds_no {st : List Int} {i : Nat} (h : ¬ ∀ n ∈ st, n % (1 + (i : Int)) = 0) : shareds st (i + 1) = shareds st i := by
  unfold shareds
  rw [List.range_succ, List.map_append, List.filter_append]
  have : (st.all fun n => n % (1 + (i : Int)) == 0) = false := by
    rw [Bool.eq_false_iff]
    intro e
    exact h fun n hn => by simpa using List.all_eq_true.mp e n hn
  simp only [List.map_cons, List.map_nil, List.filter_cons, this, List.filter_nil, Bool.false_eq_true, if_false, List.append_nil]
theorem szs_getD {l : List (Nat × Nat)} {rs : List Nat} {i : Nat} (hrs : l.map (·.1) = rs) (hi : i < l.length) : (szs l).take (i + 1) = (szs l).take i ++ [((rs.getD i 0 : Nat) : Int)] := by
  have e : l[i]? = some (l[i].1, l[i].2) := List.getElem?_eq_getElem hi
  rw [szs_take e]
  congr 2
  rw [← hrs, List.getD_eq_getElem?_getD, List.getElem?_map, e]; rfl
theorem szs_all {l : List (Nat × Nat)} {zs : List Value} (h : IntsAre zs ((szs l).take l.length)) : IntsAre zs (szs l) := by
  have e : l.length = (szs l).length := (szs_len l).symm
  rw [e, List.take_length] at h; exact h
theorem szs_map (l : List (Nat × Nat)) : szs l = (l.map (·.1)).map fun x : Nat => (x : Int) := by simp [szs]
theorem runs_add {h₀ h : Heap} {L L1 a ar aw b D I l' : Addr} {kk0 kr kw kz i tk tk' : Nat} {vs zs vs' : List Value} {l : List (Nat × Nat)} {rs : List Nat} {wl rest nw : List (Addr × Obj)} {m m' : Str → Option Value} {oC oI o2 : Obj} (J : RJ L1 a ar aw kk0 kr kw vs l wl i m nw tk oC b zs kz rest)
    (hrs : l.map (·.1) = rs) (hi : i < l.length) (_ : Fr h₀ L h m') (N : News h₀ L h ((D, listOf vs'.toArray 0) :: (l', o2) :: (I, oI) :: (L1, oC) :: rest)) (hI : ∀ p ∈ (L1, oC) :: rest, p.1 ≠ I) (hD : ∀ p ∈ (l', o2) :: (I, oI) :: (L1, oC) :: rest, p.1 < D) (ia : IntsAre vs' ((szs l).take i ++ [((rs.getD i 0 : Nat) : Int)]))
    (mr : m' "runs" = some (Value.ref ar)) (mw : m' "ways" = some (Value.ref aw)) (mz : m' "sizes" = some (Value.ref D)) (t1 : 1 ≤ tk') :
    News h₀ L h ((I, oI) :: (L1, oC) :: (D, listOf vs'.toArray 0) :: rest) ∧ (∀ p ∈ (L1, oC) :: (D, listOf vs'.toArray 0) :: rest, p.1 ≠ I) ∧ RE L1 a ar aw kk0 kr kw vs l wl (i + 1) m' ((L1, oC) :: (D, listOf vs'.toArray 0) :: rest) tk' := by
  have h1 : I < D := hD (I, oI) (by simp)
  refine ⟨News.sub N fun p hp => ?_, fun p hp => ?_, oC, D, vs', 0, _, rfl, J.dC, List.mem_cons_of_mem _ J.am, List.mem_cons_of_mem _ J.rm, List.mem_cons_of_mem _ J.wm, fun p hp => List.mem_cons_of_mem _ (J.wl p hp), List.mem_cons_self, by rw [szs_getD hrs hi]; exact ia, mr, mw, mz, t1⟩
  · simp only [List.mem_cons] at hp ⊢
    rcases hp with h | h | h | h <;> simp [h]
  · rcases List.mem_cons.mp hp with rfl | hp
    · exact hI (L1, oC) List.mem_cons_self
    · rcases List.mem_cons.mp hp with rfl | hp
      · exact Nat.ne_of_gt h1
      · exact hI p (List.mem_cons_of_mem _ hp)
theorem paid_eq {ss : List Int} {rs : List Nat} {ws : List (List Int)} {q : List (Nat × Nat)} {taken i : Nat} (C : CInv ss rs ws q taken) (hi : i < rs.length) : (ws.getD i []).length = ss.length ∧ dotp (ws.getD i []) ss ss.length = ((rs.getD i 0 : Nat) : Int) :=
  C.row i _ (by rw [List.getD_eq_getElem?_getD, List.getElem?_eq_getElem (by rw [C.wlen]; exact hi)]; rfl)
theorem getD_bd {st : List Int} (h : ∀ z ∈ st, 1 ≤ z ∧ z ≤ 18) (k : Nat) : 0 ≤ st.getD k 0 ∧ st.getD k 0 ≤ 1000 := by
  rw [List.getD_eq_getElem?_getD]
  cases e : st[k]? with
  | none => exact ⟨Int.le_refl _, by decide⟩
  | some z =>
    have := h z (List.mem_of_getElem? e)
    simp only [Option.getD_some]
    omega
/-- what the law asks at its end -/
theorem law_last {st : List Int} {rs : List Nat} {ws : List (List Int)} {taken : Nat} {M : Int} {g : Nat} {ns : List Int} (C : CInv st rs ws [] taken) (hM : M ∈ st) (hmax : ∀ a ∈ st, a ≤ M) (hb : ∀ z ∈ st, 1 ≤ z ∧ z ≤ 18) (G : Great (st.map Int.toNat) g) (hp : ns.Perm (rs.map fun x : Nat => (x : Int))) (hs : ns.Pairwise (· ≤ ·)) :
    1 ≤ g ∧ g ≤ M.toNat ∧ M.toNat ≤ 18 ∧ ns = rangeInts g g (M.toNat / g) := by
  have h1 := hb M hM
  have hMm : M.toNat ∈ st.map Int.toNat := List.mem_map.mpr ⟨M, hM, rfl⟩
  refine ⟨G.pos, Nat.le_of_dvd (by omega) (G.dvd _ hMm), by omega, ?_⟩
  refine C.closed.sorted G hMm (fun s hs => ?_) hp hs
  obtain ⟨z, hz, rfl⟩ := List.mem_map.mp hs
  have := hmax z hz
  omega
theorem great_le {st : List Int} {mm g : Nat} (hb : ∀ z ∈ st, 1 ≤ z ∧ z ≤ 18) (G : Great (st.map Int.toNat) g) (hM : (mm : Int) ∈ st) : 1 ≤ g ∧ g ≤ 18 := by
  have h1 := hb _ hM
  have := Nat.le_of_dvd (by omega) (G.dvd _ (List.mem_map.mpr ⟨_, hM, rfl⟩))
  exact ⟨G.pos, by omega⟩
end Mine

-- part Law
namespace Mine
set_option maxRecDepth 100000
set_option maxHeartbeats 8000000
local macro_rules | `(tactic| walk_at $s:str) => `(tactic| k_extra $(Lean.Syntax.mkStrLit ("MY@" ++ s.getString)))
theorem words_Law : True := by
  k_with_none
  k_with "MY@MY tk" => with_reducible (first | assumption | exact Tks.add (by assumption) | exact Tks.add (Tks.add (by assumption)) | exact Tks.add (Tks.add (Tks.add (by assumption))) | exact Tks.add (Tks.add (Tks.add (Tks.add (by assumption)))) | exact Tks.add (Tks.add (Tks.add (Tks.add (Tks.add (by assumption))))) | exact Tks.add (Tks.add (Tks.add (Tks.add (Tks.add (Tks.add (by assumption)))))) | exact Tks.add (Tks.add (Tks.add (Tks.add (Tks.add (Tks.add (Tks.add (by assumption))))))) | exact Tks.add (Tks.add (Tks.add (Tks.add (Tks.add (Tks.add (Tks.add (Tks.add (by assumption)))))))) | exact Tks.add (Tks.add (Tks.add (Tks.add (Tks.add (Tks.add (Tks.add (Tks.add (Tks.add (by assumption))))))))) | exact Tks.add (Tks.add (Tks.add (Tks.add (Tks.add (Tks.add (Tks.add (Tks.add (Tks.add (Tks.add (by assumption)))))))))) | exact Tks.add (Tks.add (Tks.add (Tks.add (Tks.add (Tks.add (Tks.add (Tks.add (Tks.add (Tks.add (Tks.add (by assumption))))))))))) | exact Tks.add (Tks.add (Tks.add (Tks.add (Tks.add (Tks.add (Tks.add (Tks.add (Tks.add (Tks.add (Tks.add (Tks.add (by assumption)))))))))))) | exact Tks.add (Tks.add (Tks.add (Tks.add (Tks.add (Tks.add (Tks.add (Tks.add (Tks.add (Tks.add (Tks.add (Tks.add (Tks.add (by assumption))))))))))))) | exact Tks.add (Tks.add (Tks.add (Tks.add (Tks.add (Tks.add (Tks.add (Tks.add (Tks.add (Tks.add (Tks.add (Tks.add (Tks.add (Tks.add (by assumption)))))))))))))) | exact Tks.add (Tks.add (Tks.add (Tks.add (Tks.add (Tks.add (Tks.add (Tks.add (Tks.add (Tks.add (Tks.add (Tks.add (Tks.add (Tks.add (Tks.add (by assumption))))))))))))))) | exact Tks.add (Tks.add (Tks.add (Tks.add (Tks.add (Tks.add (Tks.add (Tks.add (Tks.add (Tks.add (Tks.add (Tks.add (Tks.add (Tks.add (Tks.add (Tks.add (by assumption)))))))))))))))) | exact Tks.add (Tks.add (Tks.add (Tks.add (Tks.add (Tks.add (Tks.add (Tks.add (Tks.add (Tks.add (Tks.add (Tks.add (Tks.add (Tks.add (Tks.add (Tks.add (Tks.add (by assumption))))))))))))))))) | exact Tks.add (Tks.add (Tks.add (Tks.add (Tks.add (Tks.add (Tks.add (Tks.add (Tks.add (Tks.add (Tks.add (Tks.add (Tks.add (Tks.add (Tks.add (Tks.add (Tks.add (Tks.add (by assumption)))))))))))))))))) | exact Tks.add (Tks.add (Tks.add (Tks.add (Tks.add (Tks.add (Tks.add (Tks.add (Tks.add (Tks.add (Tks.add (Tks.add (Tks.add (Tks.add (Tks.add (Tks.add (Tks.add (Tks.add (Tks.add (by assumption))))))))))))))))))) | exact Tks.add (Tks.add (Tks.add (Tks.add (Tks.add (Tks.add (Tks.add (Tks.add (Tks.add (Tks.add (Tks.add (Tks.add (Tks.add (Tks.add (Tks.add (Tks.add (Tks.add (Tks.add (Tks.add (Tks.add (by assumption)))))))))))))))))))) | exact Tks.add (Tks.add (Tks.add (Tks.add (Tks.add (Tks.add (Tks.add (Tks.add (Tks.add (Tks.add (Tks.add (Tks.add (Tks.add (Tks.add (Tks.add (Tks.add (Tks.add (Tks.add (Tks.add (Tks.add (Tks.add (by assumption))))))))))))))))))))) | exact Tks.add (Tks.add (Tks.add (Tks.add (Tks.add (Tks.add (Tks.add (Tks.add (Tks.add (Tks.add (Tks.add (Tks.add (Tks.add (Tks.add (Tks.add (Tks.add (Tks.add (Tks.add (Tks.add (Tks.add (Tks.add (Tks.add (by assumption)))))))))))))))))))))) | exact Tks.add (Tks.add (Tks.add (Tks.add (Tks.add (Tks.add (Tks.add (Tks.add (Tks.add (Tks.add (Tks.add (Tks.add (Tks.add (Tks.add (Tks.add (Tks.add (Tks.add (Tks.add (Tks.add (Tks.add (Tks.add (Tks.add (Tks.add (by assumption))))))))))))))))))))))) | exact Tks.add (Tks.add (Tks.add (Tks.add (Tks.add (Tks.add (Tks.add (Tks.add (Tks.add (Tks.add (Tks.add (Tks.add (Tks.add (Tks.add (Tks.add (Tks.add (Tks.add (Tks.add (Tks.add (Tks.add (Tks.add (Tks.add (Tks.add (Tks.add (by assumption)))))))))))))))))))))))))
  k_with "MY@MY lit" => first | with_reducible rfl | exact lit257 | exact litSpQ | exact litQ | exact litE | exact lit257Q | exact litLies
  k_with "MY@MY len" => first | assumption | (simp only [List.length_append, List.length_cons, List.length_nil, List.length_replicate, rep] at *; omega)
  k_with "MY@MY int" => first | decide | omega
  k_with "MY@subscriptTail Name Slice str ref" => (k_here; (with_reducible show wpAny _ _ (subscriptTail _ _ (Value.str (S _) _) (Value.ref _)) _ _ _); (refine' with_k (by walk_at "MY tk") ?_); k_dflt (first | (refine' sub_from (s := ⟨_, _, _, _, _⟩) (by k_asm) (by k_asm) (by walk_at "MY len") (by walk_at "MY int") _ (by walk_at "MY cut") ?_) | (refine' sub_to (s := ⟨_, _, _, _, _⟩) (by k_asm) (by k_asm) (by walk_at "MY len") (by walk_at "MY int") _ (by walk_at "MY cut") ?_) | (refine' sub_to_neg (s := ⟨_, _, _, _, _⟩) (by k_asm) (by k_asm) (by walk_at "MY len") (by walk_at "MY int") _ (by walk_at "MY cut") ?_) | (refine' sub_all (s := ⟨_, _, _, _, _⟩) (by k_asm) (by k_asm) (by walk_at "MY len") ?_) | (refine' sub_run (s := ⟨_, _, _, _, _⟩) (by k_asm) (by k_asm) (by walk_at "MY len") (by walk_at "MY int") (by walk_at "MY int") (by walk_at "MY len") _ (by walk_at "MY cut") ?_)); intro _ _ _ _ _ hT9_k9; (try dsimp only at hT9_k9); (try dsimp only))
  k_with "MY@subscriptTail Name Name str int" => (k_here; (with_reducible show wpAny _ _ (subscriptTail _ _ (Value.str (S _) _) (Value.int _ _)) _ _ _); k_dflt (refine' sub_item (by walk_at "MY len") (by walk_at "MY len") (by walk_at "MY len") _ (by walk_at "MY item") ?_); (try dsimp only))
  k_with "MY@subscriptTail Name BinOp str int" => (k_here; (with_reducible show wpAny _ _ (subscriptTail _ _ (Value.str (S _) _) (Value.int _ _)) _ _ _); k_dflt (refine' sub_item (by walk_at "MY len") (by walk_at "MY len") (by walk_at "MY len") _ (by walk_at "MY item") ?_); (try dsimp only))
  k_with "MY@compareOp NotEq str str" => (k_here; k_dflt (first | (refine' ne_no' (by walk_at "MY lit") (by walk_at "MY lit") (by first | rfl | walk_at "MY eq") ?_) | (refine' ne_yes' (by walk_at "MY lit") (by walk_at "MY lit") (by first | decide | walk_at "MY ne") ?_)); (try dsimp only))
  k_with "MY@compareOp Eq str str" => (k_here; k_dflt (first | (refine' eq_yes' (by walk_at "MY lit") (by walk_at "MY lit") (by first | rfl | walk_at "MY eq") ?_) | (refine' eq_no' (by walk_at "MY lit") (by walk_at "MY lit") (by first | decide | walk_at "MY ne") ?_)); (try dsimp only))
  k_with "MY@call builtin:len" => (k_here; k_dflt (refine len_S (by walk_at "MY len") ?_); (try dsimp only))
  k_with "MY@binaryOp Add str str" => (k_here; (refine' with_k (by walk_at "MY tk") ?_); k_dflt (refine' add_S' (by walk_at "MY lit") (by walk_at "MY lit") (by walk_at "MY len") ?_); intro t9_k9 k9_k9 hT9_k9; (try dsimp only at hT9_k9); (try dsimp only))
  k_with "MY@MY free" => ((fail_if_success (with_reducible show wpAny _ _ (subscriptTail (Expr.List _ _) _ _ _) _ _ _)); (fail_if_success (with_reducible show wpAny _ _ (call (Value.ref 114) _) _ _ _)); (fail_if_success (with_reducible show wpAny _ _ (call (Value.ref 121) _) _ _ _)); (fail_if_success (with_reducible show wpAny _ _ (call (Value.ref 74) _) _ _ _)); (fail_if_success (with_reducible show wpAny _ _ (exec (Stmt.Expr _ _) _) _ _ _)); (fail_if_success (with_reducible show wpAny _ _ (call (Value.ref 109) _) _ _ _)); (fail_if_success (with_reducible show wpAny _ _ (call (Value.ref 88) _) _ _ _)); (fail_if_success (with_reducible show wpAny _ _ (exec (Stmt.For _ _ _ _ _) _) _ _ _)); (fail_if_success (with_reducible show wpAny _ _ (exec (Stmt.While _ _ _ _) _) _ _ _)); (fail_if_success (with_reducible show FStep _ _ _ _ _ _ _ _ _)); (fail_if_success (with_reducible show wpAny _ _ (pyIter _) _ _ _)); (fail_if_success (with_reducible show Exists _)); (fail_if_success (with_reducible show Fr _ _ _ _ ∧ _)); (fail_if_success (with_reducible show Keeps _ _ ∧ _)); (fail_if_success (with_reducible show WStep _ _ _ _ _ _ _ _)); (fail_if_success (with_reducible show wpAny _ _ (exec (Stmt.Assign _ (Expr.ListComp _ _ _ _) _) _) _ _ _)); (fail_if_success (with_reducible show wpAny _ _ (eval (Expr.ListComp _ _ _ _) _) _ _ _)))
  k_with "MY@MY steps" => repeat' (first | (k_unfold; (try dsimp only)) | (k_end; wrow_close) | (walk_at "MY free"; first | walk1 | (dsimp only; walk1) | (leave1; walk_say "STEP leave1"; try dsimp only)) | fail "no step")
  k_with "MY@MY cut" => with_reducible rfl
  k_with "MY@truthy str" => (k_here; k_dflt (first | (refine truthy_S (by walk_at "MY len") true (by refine decide_eq_true ?_; walk_at "MY full") ?_) | (refine truthy_S (by walk_at "MY len") false (by refine decide_eq_false ?_; refine not_not_intro ?_; walk_at "MY empty") ?_)); (try dsimp only))
  k_with "MY@execs cons" => (k_here; (refine' execs_cons_k (by walk_at "MY tk") ?_); intro tk_q_k9 hT9_k9; (try dsimp only at hT9_k9))
  k_with "MY@execs nil" => (k_here; refine wpAny_execs_nil ?_)
  k_with "MY@execs cons Assign cons" => (k_here; (refine' execs_cons_k (by walk_at "MY tk") ?_); intro tk_q_k9 hT9_k9; (try dsimp only at hT9_k9))
  k_with "MY@MY hd" => ((try dsimp only); first | exact Tks.hd (by assumption) | exact Tks.hd (Tks.add (by assumption)) | exact Tks.hd (Tks.add (Tks.add (by assumption))) | exact Tks.hd (Tks.add (Tks.add (Tks.add (by assumption)))))
  k_with "MY@MY mem" => first | assumption | exact List.Mem.head _ | (refine' List.Mem.tail _ ?_; walk_at "MY mem") | (refine' List.mem_append_right _ ?_; walk_at "MY mem")
  k_with "MY@MY list" => exact isList_of (by k_asm) (by walk_at "MY mem")
  k_with "MY@MY size" => first | assumption | with_reducible rfl
  k_with "MY@MY fits" => omega
  k_with "MY@MY get" => first | assumption
  k_with "MY@call builtin:len" => (k_here; (with_reducible show wpAny _ _ (call (Value.builtin "len") [Value.ref _]) _ _ _); k_dflt (refine' len_l (by walk_at "MY list") (by walk_at "MY size") (by walk_at "MY fits") ?_); (try dsimp only))
  k_with "MY@subscriptTail Name Name ref int" => (k_here; (with_reducible show wpAny _ _ (subscriptTail _ _ (Value.ref _) (Value.int _ _)) _ _ _); k_dflt (refine' item_l (by walk_at "MY list") (by omega) (by omega) (by walk_at "MY get") ?_); (try dsimp only))
  k_with "MY@call type:range" => (k_here; (with_reducible show wpAny _ _ (call _ [Value.int _ _]) _ _ _); (refine' with_k (by walk_at "MY tk") ?_); k_dflt (refine' range1_rows (by k_asm) (by k_asm) ?_); intro h9_k9 tk9_k9 t9_k9 u9_k9 v9_k9 hR9_k9 F9_k9 N9_k9 K9_k9 hT9_k9; (try dsimp only at hT9_k9 ⊢))
  k_with "MY@MY room" => (first | omega | ktr_room | k_room)
  k_with "MY@MY units" => (first | omega | ktr_units)
  k_with "MY@MY enter" => (refine' code_def ?k1_z8 ?k2_z8 ?k3_z8 ?k4_z8 ?k5_z8 ?kA_z8 ?kF_z8 ?kK_z8 ?k6_z8 ?k7_z8 ?k8_z8 ?k9_z8 ?kB_z8 ?_ ?c2_z8 ?c3_z8 ?c4_z8 ?c5_z8; (case kA_z8 => exact rfl); (case kF_z8 => exact rfl); (case kK_z8 => first | exact rfl | assumption); (case k1_z8 => k_asm); (case k2_z8 => k_asm); (case k3_z8 => k_asm); (case k4_z8 => k_asm); (case k5_z8 => k_asm); (case k6_z8 => k_is); (case k7_z8 => k_is); (case k8_z8 => walk_at "MY room"); (case k9_z8 => exact BindsTo.of_eq rfl); (case c5_z8 => decide); (case kB_z8 => exact locs rfl); (case c2_z8 => exact rfl); (case c3_z8 => exact rfl); (case c4_z8 => exact rfl); k_whole; intro g_q_k9 L_q_k9 h_q_k9 FG_q_k9 F_q_k9 N_q_k9 B_q_k9 X_q_k9 T_q_k9; (try dsimp only); (try k_lift B_q_k9); (try k_fold))
  k_with "MY@call ref" => (k_here; (with_reducible first | show wpAny _ _ (call (Value.ref 81) _) _ _ _ | show wpAny _ _ (call (Value.ref 53) _) _ _ _ | show wpAny _ _ (call (Value.ref 60) _) _ _ _ | show wpAny _ _ (call (Value.ref 67) _) _ _ _ | show wpAny _ _ (call (Value.ref 74) _) _ _ _); refine wpAny_call ?_; k_dflt walk_at "MY enter")
  k_with "MY@binaryOp Mod int int" => (k_here; k_dflt (refine' mod_em (by omega) ?_); intro r9_k9 hr9_k9 h09_k9 h19_k9; (try dsimp only))
  k_with "MY@MY memr" => with_reducible (first | assumption | exact List.mem_cons_self | (refine List.mem_cons_of_mem _ ?_; walk_at "MY memr") | (refine List.mem_append_right _ ?_; walk_at "MY memr"))
  k_with "MY@MY litem" => (k_here; (with_reducible show wpAny _ _ (subscriptTail _ _ (Value.ref _) (Value.int _ _)) _ _ _); k_dflt (first
  | (refine' it_tups (by k_asm) (by walk_at "MY memr") (by with_reducible assumption) (by assumption) (by assumption) (by omega) (by omega) (by omega) ?_; intro b9_k9 x9_k9 y9_k9 t9_k9 u9_k9 n9_k9 hx9_k9 hl9_k9 hk9_k9 hn9_k9 hm9_k9)
  | (with_reducible refine' it_runs (by k_asm) (by walk_at "MY memr") (by assumption) (by omega) (by omega) ?_ (by with_unfolding_all rfl); intro t9_k9 hp9_k9)
  | (with_reducible refine' it_ways2 (by k_asm) (by walk_at "MY memr") (by assumption) (by assumption) (by omega) (by omega) ?_ (by with_unfolding_all rfl); intro b9_k9 its9_k9 kk9_k9 hm9_k9 hI9_k9)
  | (with_reducible refine' it_ways (by k_asm) (by walk_at "MY memr") (by assumption) (by assumption) (by omega) (by omega) ?_ (by with_unfolding_all rfl); intro b9_k9 its9_k9 kk9_k9 hm9_k9 hI9_k9)
  | (refine' it_ints (by k_asm) (by walk_at "MY memr") (by with_reducible assumption) (by omega) (by omega) (by omega) ?_; intro x9_k9 t9_k9 hx9_k9)); (try dsimp only))
  k_with "MY@subscriptTail Name Name ref int" => walk_at "MY litem"
  k_with "MY@subscriptTail Name BinOp ref int" => walk_at "MY litem"
  k_with "MY@subscriptTail Subscript Name ref int" => walk_at "MY litem"
  k_with "MY@assign Tuple" => (k_here; (with_reducible show wpAny _ _ (assign (Expr.Tuple _ _ _) _ (Value.ref _)) _ _ _); k_dflt (refine' unpackN_ (by k_asm) (by k_asm) (by exact News.isTup (by k_asm) (by walk_at "MY mem")) (by exact rfl) (by exact rfl) (by exact rfl) ?_); intro h9_k9 F9_k9 N9_k9; (try dsimp only))
  k_with "MY@call builtin:hasattr" => (k_here; (refine' with_k (by walk_at "MY tk") ?_); k_dflt (refine' has_listN (by k_asm) (by k_asm) (by walk_at "MY mem") ?_); intro h9_k9 k9_k9 F9_k9 N9_k9 hT9_k9; (try dsimp only at hT9_k9 ⊢))
  k_with "MY@execs cons" => (k_here; (try dsimp only); (refine' execs_cons_k (by walk_at "MY tk") ?_); intro tk_q_k9 hT9_k9; (try dsimp only at hT9_k9))
  k_with "MY@execs cons Assign cons" => (k_here; (try dsimp only); (refine' execs_cons_k (by walk_at "MY tk") ?_); intro tk_q_k9 hT9_k9; (try dsimp only at hT9_k9))
  k_with "MY@call builtin:len" => (k_here; (with_reducible show wpAny _ _ (call (Value.builtin "len") [Value.str (S (rep _)) _]) _ _ _); k_dflt (refine' len_rep (by omega) ?_); (try dsimp only))
  k_with "MY@binaryOp Mult int int" => (k_here; k_dflt (refine' PyProof.Rows.mul_int ?_ (IntMulOk.of_right (intBits_le_64 (by omega) (by omega)))); (try dsimp only))
  k_with "MY@compareOp NotIn int ref" => (k_here; k_dflt (refine' ni_ints (by k_asm) (by walk_at "MY memr") (by assumption) ?h1 ?h2); (all_goals intro hx9_k9); (try dsimp only))
  k_with "MY@binaryOp Add ref ref" => (k_here; k_dflt (refine' add_li (by k_asm) (by k_asm) (by walk_at "MY memr") (by with_reducible assumption) (by walk_at "MY memr") (by omega) ?_); intro d9_k9 v9_k9 h9_k9 F9_k9 N9_k9 l9_k9 i9_k9; have l8_k9 := l9_k9; (try k_lt l9_k9); (try dsimp only))
  k_with "MY@eval Name" => (k_here; (with_reducible show wpAny _ _ (eval (Expr.Name _ _) (compEnvC _ _ _ _)) _ _ _); k_dflt (first
  | (refine' ce_local (by assumption) (by assumption) ?_ (by exact rfl) (by exact rfl) (by decide))
  | (refine' ce_cell (by exact rfl) (by assumption) ?_ (by exact rfl) (by exact rfl) (by decide))
  | (refine' ce_free (by exact rfl) (by assumption) ?_ (by exact rfl) (by exact rfl) (by decide) (by decide))
  | (refine' ce_K (by k_asm) (by k_asm) (by k_asm) (by k_is) ?_ (by exact rfl) (by exact rfl) (by exact rfl) (by decide))
  | (refine' ce_B (by k_asm) (by k_asm) (by k_asm) (by k_is) (by boot_fast) (by decide) ?_ (by exact rfl) (by exact rfl) (by exact rfl) (by exact rfl) (by decide))))
  k_with "MY@binaryOp Mult str int" => (k_here; k_dflt (refine' mul_qt (by walk_at "MY lit") (by omega) (by omega) ?_); intro t9_k9 k9_k9 hK9_k9 hT9_k9; (try dsimp only at hK9_k9 hT9_k9 ⊢))
  k_with "MY@MY listr" => exact isList_of (by k_asm) (by walk_at "MY memr")
  k_with "MY@call builtin:min" => (k_here; (with_reducible show wpAny _ _ (call (Value.builtin "min") [Value.ref _]) _ _ _); (refine' with_k (by walk_at "MY tk") ?_); k_dflt (refine' min_list_N (by exact rfl) (by k_asm) (by k_asm) (by walk_at "MY listr") (by with_reducible assumption) (by assumption) ?_); intro h9_k9 M9_k9 t9_k9 k9_k9 F9_k9 N9_k9 hM9_k9 hm9_k9 hT9_k9; (try dsimp only at hT9_k9 ⊢))
  k_with "MY@call builtin:max" => (k_here; (with_reducible show wpAny _ _ (call (Value.builtin "max") [Value.ref _]) _ _ _); (refine' with_k (by walk_at "MY tk") ?_); k_dflt (refine' max_list_N (by exact rfl) (by k_asm) (by k_asm) (by walk_at "MY listr") (by with_reducible assumption) (by assumption) ?_); intro h9_k9 M9_k9 t9_k9 k9_k9 F9_k9 N9_k9 hM9_k9 hm9_k9 hT9_k9; (try dsimp only at hT9_k9 ⊢))
  k_with "MY@call type:range" => (k_here; (with_reducible show wpAny _ _ (call _ [Value.int _ _, Value.int _ _]) _ _ _); (refine' with_k (by walk_at "MY tk") ?_); k_dflt (refine' range2_rows (by k_asm) (by k_asm) ?_); intro h9_k9 tk9_k9 t9_k9 u9_k9 v9_k9 hR9_k9 F9_k9 N9_k9 K9_k9 hT9_k9; (try dsimp only at hT9_k9 ⊢))
  k_with "MY@compareOp Eq ref ref" => (k_here; (with_reducible show wpAny _ _ (compareOp CmpOp.Eq (Value.ref _) (Value.ref _)) _ _ _); k_dflt (first
  | (refine' eq_empty (by k_asm) (by walk_at "MY memr") (by walk_at "MY memr") (by first | units_room | walk_at "MY units") _ (by assumption) ?_)
  | (refine' eq_intsK (by walk_at "MY listr") (by with_reducible assumption) (by walk_at "MY listr") (by with_reducible assumption) (by first | units_room | walk_at "MY units") ?_; rw [decide_eq_true (by with_reducible assumption)])); (try dsimp only))
  k_with "MY@MY steps4" => repeat' (first | (k_unfold; (try dsimp only)) | (k_end; wrow_close) | ((fail_if_success (with_reducible show wpAny _ _ (newList _) _ _ _)); walk_at "MY free"; first | walk1 | (dsimp only; walk1) | (leave1; walk_say "STEP leave1"; try dsimp only)) | fail "no step")
  k_with "MY@subscriptTail Name UnaryOp ref int" => (k_here; (with_reducible show wpAny _ _ (subscriptTail _ _ (Value.ref _) (Value.int _ _)) _ _ _); k_dflt (refine' it_last (by k_asm) (by walk_at "MY memr") (by assumption) (by assumption) ?_ (by with_unfolding_all rfl)); intro t9_k9; (try dsimp only))
  k_with "MY@call builtin:sorted" => (k_here; (with_reducible show wpAny _ _ (call (Value.builtin "sorted") [Value.ref _]) _ _ _); k_dflt (refine' kso_sorted (by k_asm) (by k_asm) (by walk_at "MY listr") (by with_reducible assumption) (by assumption) ?_); intro D9_k9 vs9_k9 ns9_k9 c9_k9 h9_k9 F9_k9 N9_k9 l9_k9 hi9_k9 hlen9_k9 hp9_k9 hs9_k9 hf9_k9; (try dsimp only))
  k_with "MY@call type:range" => (k_here; (with_reducible show wpAny _ _ (call _ [Value.int _ _, Value.int _ _, Value.int _ _]) _ _ _); (refine' with_k (by walk_at "MY tk") ?_); k_dflt (refine' range3_rows (by k_asm) (by k_asm) (by omega) ?_ (by exact Or.inl (PyProof.noPylong_small (by omega)))); intro h9_k9 tk9_k9 t9_k9 u9_k9 v9_k9 hR9_k9 F9_k9 N9_k9 K9_k9 hT9_k9; (try dsimp only at hT9_k9 ⊢))
  k_with "MY@MY steps5" => repeat' (first | (k_unfold; (try dsimp only)) | (k_end; wrow_close) | ((fail_if_success (with_reducible show wpAny _ _ (call (Value.type "list") _) _ _ _)); walk_at "MY free"; first | walk1 | (dsimp only; walk1) | (leave1; walk_say "STEP leave1"; try dsimp only)) | fail "no step")
  k_with "MY@MY steps6" => repeat' (first | (k_unfold; (try dsimp only)) | ((fail_if_success (with_reducible show GoodW _ _ _ _ _ _ _)); walk_at "MY free"; first | walk1 | (dsimp only; walk1) | (leave1; walk_say "STEP leave1"; try dsimp only)) | fail "no step")
  trivial

local macro_rules | `(tactic| k_updF) => `(tactic| first | exact updC (by assumption) (by assumption) | (refine' UpdF.tail ?a ?b; (case a => k_ne); (case b => k_updF)))

theorem post_true (ns : List Int) : PySem.Challenge.rw_wn0056_01.row.claim.post [ofPy (PyData.list (List.map PyData.int ns))] (.bool true) [ofPy (PyData.list (List.map PyData.int ns))] = true := by
  wrow_post
theorem raises_none (ns : List Int) : ∀ cls, PySem.Challenge.rw_wn0056_01.row.claim.raises [ofPy (PyData.list (List.map PyData.int ns))] cls = false := by
  exact raisesW_false (by wrow_none_raised)
theorem lawX : PySem.Challenge.rw_wn0056_01.Holds := by
  refine hd ?_
  k_go0
  all_goals (try k_fold)
  have hsz := True.intro
  walk_at "MY steps"
  rename Fr _ _ _ _ => F1
  rename News _ _ _ _ => N1
  refine kba_turn (value' := PySem.Expr.Name (PySem.Str.ofString "q") ⟨0, 0, 0, 0⟩) (fun _ => rfl) ?_
  refine' sl_zz (s := ⟨_, _, _, _, _⟩) F1 N1 ?hm ?h2 ?_
  case hm => walk_at "MY memr"
  case h2 => omega
  intro D1 zs h1 F2 N2 l2 hz
  clear F1 N1
  (try k_lt l2)
  (try dsimp only)
  walk_at "MY steps"
  rename Fr _ _ _ _ => F3
  rename News _ _ _ _ => N3
  rename IntsAre _ (_ ++ _) => hDr0
  obtain ⟨dr, hDr, hdr0, hdr4, hdrs⟩ := drawn_ok hDr0
  refine For_t (s := ⟨_, _, _, _, _⟩) F3 rfl rfl ?_
  walk_at "MY steps"
  rename Fr _ _ _ _ => F5
  rename News _ _ _ _ => N5
  obtain ⟨N6, J6⟩ := lawE_start F5 N5 (by assumption) (by k_ne) (by k_ne) rfl rfl rfl rfl
  refine loop_law (s := ⟨_, _, _, _, _⟩) (n := dr.length) rfl F5 N6 (by assumption) (range_l (by omega)) (by rw [rangeSize_nat]; simp) J6 ?step ?fin
  case step =>
    intro i tk9 m₁ h₁ tk₁ I oI oC a vs kk st rest hi J hI F7 N7
    have F8 := fr_of F7 [("total", _), ("drawn", _), ("sign", _), ("script", _), ("k", _)] (List.forall_mem_cons.mpr ⟨J.mt, List.forall_mem_cons.mpr ⟨J.md, List.forall_mem_cons.mpr ⟨J.ms, List.forall_mem_cons.mpr ⟨J.mc, List.forall_mem_cons.mpr ⟨rfl, fun _ h => nomatch h⟩⟩⟩⟩⟩)
    clear F7 F5 N5 N6 J6
    dsimp only [kstB] at F8
    have hdC := J.dC
    have ham := J.am
    have hia := J.ia
    have hdm := J.dm
    have hne := J.ne
    have hDr2 := ia_ints hDr
    have hst := J.ok.le
    walk_at "MY steps"
    · rename Fr _ _ _ _ => F9
      rename News _ _ _ _ => N9
      rename IntsAre _ (st ++ [_]) => i9
      rename (∀ p : Addr × Obj, p ∈ _ → p.1 < _) => l9
      obtain ⟨N10, hI10, J10⟩ := lawE_add J F9 N9 (by assumption) hI l9 i9 (by assumption) (mk_bd (by assumption) (by assumption) (by assumption) (by assumption)) rfl rfl rfl rfl
      exact fstep_next F9 N10 hI10 J10
    · rename Fr _ _ _ _ => F9
      rename News _ _ _ _ => N9
      exact fstep_next F9 N9 hI (lawE_same J (by assumption) rfl rfl rfl rfl)
  case fin =>
    intro h' tk m' oC a vs kk st rest F7 N7 J
    clear F5 N5 N6 J6
    have hlen := J.ok.le
    have hge := J.ok.ge hdr0
    have F8 := fr_of F7 [("total", _), ("drawn", _), ("sign", _), ("script", _)] (List.forall_mem_cons.mpr ⟨J.mt, List.forall_mem_cons.mpr ⟨J.md, List.forall_mem_cons.mpr ⟨J.ms, List.forall_mem_cons.mpr ⟨J.mc, fun _ h => nomatch h⟩⟩⟩⟩)
    clear F7
    dsimp only [kstB] at F8
    have hdC := J.dC
    have ham := J.am
    have hia := J.ia
    dsimp only
    walk_at "MY steps"
    refine lc_eval (s := ⟨_, _, _, _, _⟩) (oc := false) (x := "x") rfl ⟨by with_unfolding_all rfl, rfl, by decide, fun _ => rfl, fun _ => rfl, rfl⟩ ?_
    walk_at "MY steps"
    rename Fr _ _ _ _ => F9
    rename News _ _ _ _ => N9
    rename IntsAre _ (List.take 20 _) => hS20
    have hs20 := hS20.length
    have hI20 := ia_ints hS20
    refine ⟨_, _, .inl ⟨_, _, rfl, isList_of N9 List.mem_cons_self, rfl, rfl⟩, ?sz, fun i ys h tk => PickJ i ys, _, _, _, rfl, rfl, rfl, fun _ _ _ _ _ _ r _ _ => r, PickJ.nil, ?turn, ?fin⟩
    case sz => rw [sizeLine_eq, List.size_toArray]; omega
    case turn =>
      intro i v ys h tk E' hi htk0 hP hJ hv _ _ _ kp
      obtain ⟨t1, e1⟩ := hI20.at (i := i) (by have := hI20.1; omega)
      obtain rfl := Option.some.inj (hP.symm.trans e1)
      obtain ⟨m9, hn9, hm9⟩ := hv
      have F10 := F9.keeps kp
      have N10 := N9.grown kp
      clear F9 N9
      refine wpAny_pure ⟨⟨h, tk, rfl, fun _ _ e => e⟩, ?_⟩
      simp only [if_true]
      walk_at "MY steps"
      exact ⟨⟨h, _, rfl, fun _ _ e => e⟩, hJ.push⟩
    case fin =>
      intro h tk ys kp hL hJ
      obtain ⟨F10, N10, l10⟩ := comp_new F9 N9 (fun b o e => kp b o (fun q => nomatch q) e) (Nat.le_succ _) (show _ = some (listOf ys.toArray ys.length) from hL)
      obtain ⟨xs, hxs, hys⟩ := hJ
      have hia2 := ia_of hys
      have hsz20 := hI20.1
      clear F9 N9 kp hL
      have l11 := l10
      (try k_lt l10)
      dsimp only
      walk_at "MY steps"
      rename IntsAre _ (xs ++ [_]) => hPick
      refine with_k (l := [1]) (fun a ha => by rw [List.mem_singleton.mp ha]; exact Nat.succ_le_succ (Nat.zero_le _)) ?_
      refine' cm_use (closure_spec _ _ _ _ _ _ _ vs.toArray _ _ _ st (xs ++ [0]) _ _) ?B ?F ?X ?N ?T ?hk ?hp ?hd ?hu ?_
      case B => k_asm
      case F => k_asm
      case X => k_asm
      case N => k_asm
      case T => k_asm
      case hk => first | exact rfl | assumption
      case hp => exact ⟨by walk_at "MY memr", by walk_at "MY memr", ia_ints hia, ia_ints hPick, by rw [List.length_append, List.length_singleton]; omega, by rw [List.length_append, List.length_singleton]; omega, by omega, by omega, hge, J.ok.nd, J.ok.bd⟩
      case hd => walk_at "MY room"
      case hu => walk_at "MY units"
      intro v20 add20 h20 tk20 hR20 F20 N20 hA20 hT20
      obtain @⟨D, ar, aw, kr, kw, l, ws, wl, tkn, hRows, hInv⟩ := hR20
      simp only [List.cons_append] at N20
      (try dsimp only)
      dsimp only at hT20
      have hszR : (runArr l).size = l.length := runArr_size l
      have hl18 : l.length ≤ 18 := by have := hInv.len; rwa [List.length_map] at this
      walk_at "MY steps"
      rename Fr _ _ _ _ => F22
      refine For_t (s := ⟨_, _, _, _, _⟩) F22 rfl rfl ?_
      walk_at "MY steps"
      rename Fr _ _ _ _ => F23
      rename News _ _ _ _ => N23
      rename Tks [1] _ => hT23
      obtain ⟨N24, J24⟩ := runs_start F23 N23 hdC ham rfl rfl rfl hT23.hd
      refine loop_runs (s := ⟨_, _, _, _, _⟩) (n := l.length) rfl F23 N24 (by assumption) (range_l (by omega)) (by rw [rangeSize_nat]; simp) J24 ?step2 ?fin2
      case step2 =>
        intro i t m₁ h₁ tk₁ I oI oC b zs kz rest hi J2 hI F25 N25
        have F26 := fr_of F25 [("runs", _), ("ways", _), ("sizes", _), ("k", _)] (List.forall_mem_cons.mpr ⟨J2.mr, List.forall_mem_cons.mpr ⟨J2.mw, List.forall_mem_cons.mpr ⟨J2.mz, List.forall_mem_cons.mpr ⟨rfl, fun _ h => nomatch h⟩⟩⟩⟩)
        clear F25 F23 N23 N24 J24 F22
        dsimp only [kstB] at F26
        have hdC2 := J2.dC
        have ham2 := J2.am
        have hrm2 := J2.rm
        have hwm2 := J2.wm
        have hzm2 := J2.zm
        have hzi2 := J2.zi
        obtain ⟨rs, hrs⟩ : ∃ rs, l.map (·.1) = rs := ⟨_, rfl⟩
        have ht12 := J2.t1
        have hWl2 := J2.wl
        have hwlen2 : ws.length = l.length := by have := hInv.wlen; rwa [List.length_map] at this
        have hB3 : Tks [1] tk₁ := fun a ha => by rw [List.mem_singleton.mp ha]; exact J2.t1
        have hbd : 1 ≤ rs.getD i 0 ∧ rs.getD i 0 ≤ 18 := hInv.rng _ (by rw [hrs]; exact getD_mem' (by rw [← hrs, List.length_map]; exact hi))
        obtain ⟨hbd1, hbd2⟩ := hbd
        walk_at "MY steps"
        rename Tks [1] _ => hT30
        have hT30h := hT30.hd
        refine' ct_use (count_str_spec _ _ _ _ _ _ _ _) ?B ?F ?X ?N ?T ?hk ?hp ?hd ?hu ?_
        case B => k_asm
        case F => k_asm
        case X => k_asm
        case N => k_asm
        case T => k_asm
        case hk => first | exact rfl | assumption
        case hp => exact ⟨Nat.le_trans hT30h (Nat.le_succ _), Nat.ne_of_gt hT30h⟩
        case hd => walk_at "MY room"
        case hu => walk_at "MY units"
        intro v31 add31 h31 tk31 hle31 hR31 F31 N31 hA31
        obtain ⟨rfl, tc31, rfl⟩ := hR31
        simp only [List.nil_append] at N31
        dsimp only at hle31
        have hB4 : Tks [1] tk31 := fun a ha => by rw [List.mem_singleton.mp ha]; omega
        clear hA31 hT30
        have hInv2 : CInv st rs ws [] tkn := hrs ▸ hInv
        have hirs : i < rs.length := by rw [← hrs, List.length_map]; exact hi
        obtain ⟨hwl0, hdt⟩ := paid_eq hInv2 hirs
        have hzlen : ((szs l).take i).length ≤ 1000 := by rw [List.length_take, szs_len]; omega
        (try dsimp only)
        walk_at "MY steps"
        rename Tks [1] _ => hT40
        have hT40h := hT40.hd
        rename (_ + 1 ≤ _) => hK40
        refine with_k (l := [1]) (fun a ha => by rw [List.mem_singleton.mp ha]; (try dsimp only); omega) ?_
        refine' cm_use (paid_spec _ _ _ _ _ _ _ _ _ _ _ _ st) ?B ?F ?X ?N ?T ?hk ?hp ?hd ?hu ?_
        case B => k_asm
        case F => k_asm
        case X => k_asm
        case N => k_asm
        case T => k_asm
        case hk => first | exact rfl | assumption
        case hp => exact ⟨by walk_at "MY memr", by walk_at "MY memr", by assumption, ia_ints hia, hwl0, by omega, getD_bd J.ok.bd⟩
        case hd => walk_at "MY room"
        case hu => walk_at "MY units"
        intro v41 add41 h41 tk41 hR41 F41 N41 hA41 hT41
        obtain ⟨rfl, tp41, hv41⟩ := hR41
        rw [hdt] at hv41
        subst hv41
        simp only [List.nil_append] at N41
        clear hA41 hT40
        dsimp only at hT41 ⊢
        walk_at "MY steps"
        · exfalso; first | exact absurd rfl (by with_reducible assumption) | omega
        rename Fr _ _ _ _ => F42
        rename News _ _ _ _ => N42
        rename IntsAre _ _ => i42
        rename (∀ p : Addr × Obj, p ∈ _ → p.1 < _) => l42
        rename Tks [1] _ => hT42
        obtain ⟨N43, hI43, J43⟩ := runs_add J2 hrs hi F42 N42 hI l42 i42 rfl rfl rfl (Nat.le_succ_of_le hT42.hd)
        exact fstep_next F42 N43 hI43 J43
      case fin2 =>
        intro h' tk m' oC b zs kz rest F25 N25 J2
        clear F23 N23 N24 J24 F22
        have F26 := fr_of F25 [("sizes", _)] (List.forall_mem_cons.mpr ⟨J2.mz, fun _ h => nomatch h⟩)
        clear F25
        dsimp only [kstB] at F26
        have hdC2 := J2.dC
        have ham2 := J2.am
        have hzm2 := J2.zm
        have hzi2 := szs_all J2.zi
        have hB3 : Tks [1] tk := fun a ha => by rw [List.mem_singleton.mp ha]; exact J2.t1
        dsimp only
        walk_at "MY steps"
        rename Fr _ _ _ _ => F50
        refine with_k (l := [1]) (by walk_at "MY tk") ?_
        refine lc_assign (s := ⟨_, _, _, _, _⟩) (oc := true) (x := "d") rfl ⟨by with_unfolding_all rfl, rfl, by decide, fun _ => rfl, fun _ => rfl, rfl⟩ ?hsw ?hy ?hpw F50 ?_
        case hsw => with_unfolding_all exact rfl
        case hy => exact rfl
        case hpw => exact rfl
        walk_at "MY steps"
        rename Fr _ _ _ _ => F51
        rename News _ _ _ _ => N51
        rename IsRange _ _ _ _ _ _ _ _ => R51
        rename Heap => h51
        rename Int => M51
        rename (∀ a : Int, a ∈ st → _ ≤ a) => hm51
        rename _ ∈ st => hM51
        obtain ⟨hM1, hM2⟩ := J.ok.bd _ hM51
        obtain ⟨mm, rfl⟩ : ∃ mm : Nat, M51 = (mm : Int) := ⟨M51.toNat, by omega⟩
        refine ⟨F51, mm, _, .inr ⟨_, 1, _, _, _, _, rfl, R51, small_one (by omega) (by omega) (by omega) (by omega), by rw [rangeSize_nat]; omega, rfl⟩, by rw [sizeLine_eq]; omega, fun i ys h tk => IntsL ys (shareds st i), _, h51.objs.size + 3, _, rfl, rfl, rfl, fun _ _ _ _ _ _ r _ _ => r, ⟨rfl, by simp [shareds_zero]⟩, ?turn5, ?fin5⟩
        case turn5 =>
          intro i v ys h tk E' hi _ hP hJ hv _ _ huo kp
          obtain ⟨tv, rfl⟩ := hP
          have hv9 : h.IsCell (h51.objs.size + 3) (some (.int (1 + (i : Int)) tv)) := hv
          have F52 := F51.keeps kp
          have N52 := N51.grown kp
          clear F51 N51
          have hB3 := Tks.one tk
          have hc2 := cell_of N52 (by walk_at "MY memr") hdC2
          refine tests_one ?_
          walk_at "MY steps"
          refine lc_eval (s := ⟨_, _, _, _, _⟩) (oc := false) (x := "n") rfl ⟨by with_unfolding_all rfl, rfl, by decide, fun _ => rfl, fun _ => rfl, rfl⟩ ?_
          walk_at "MY steps"
          rename Fr _ _ _ _ => F53
          rename News _ _ _ _ => N53
          have hI53 := ia_ints hia
          have hv53 := hv9
          refine ⟨_, _, .inl ⟨_, _, rfl, isList_of N53 (by walk_at "MY memr"), rfl, rfl⟩, by rw [hI53.1, sizeLine_eq]; omega, fun k zs hh tk => NoRest (1 + (i : Int)) st k zs, _, _, _, rfl, rfl, rfl, fun _ _ _ _ _ _ r _ _ => r, NoRest.nil, ?turn6, ?fin6⟩
          case turn6 =>
            intro k v2 zs2 h2 tk2 E2 hk2 htk2 hP2 hJ2 hv2 _ _ _ kp2
            obtain ⟨t2, e2⟩ := hI53.at (i := k) (by have := hI53.1; omega)
            obtain rfl := Option.some.inj (hP2.symm.trans e2)
            have hst2 : st[k]? = some (st.getD k 0) := by rw [List.getD_eq_getElem?_getD, List.getElem?_eq_getElem (by have := hI53.1; omega)]; rfl
            obtain ⟨m9, hn9, hm9⟩ := hv2
            have F54 := F53.keeps kp2
            have N54 := N53.grown kp2
            have hv10 := hv9.keeps kp2
            clear F53 N53
            have hB4 := Tks.one tk2
            refine tests_one ?_
            walk_at "MY steps"
            rename (_ = st.getD k 0 % _) => hr9
            dsimp only
            refine ⟨⟨_, _, rfl, fun _ _ e => e⟩, ?_⟩
            by_cases hr0 : st.getD k 0 % (1 + (i : Int)) = 0
            · rw [if_neg (by rw [hr9, hr0]; decide)]
              exact hJ2.no hst2 hr0
            · rw [if_pos (by rw [hr9]; simpa using hr0)]
              walk_at "MY steps"
              exact ⟨⟨_, _, rfl, fun _ _ e => e⟩, hJ2.yes hst2 hr0⟩
          case fin6 =>
            intro h2 tk2 zs2 kp2 hL2 hJ2
            have K6 : ∀ b o, h.get? b = some o → h2.get? b = some o := fun b o e => kp2 b o (fun q => nomatch q) e
            obtain ⟨F54, N54, l54⟩ := comp_new F53 N53 K6 (Nat.le_succ _) (show _ = some (listOf zs2.toArray zs2.length) from hL2)
            have hv10 : (h2.push { cls := .type "list", dict := none, data := .seq ([] : List Value).toArray }).IsCell _ _ := Heap.IsCell.keeps (Heap.IsCell.keeps hv9 K6) (fun b o e => Heap.get?_push_of_some _ e)
            rw [hI53.1] at hJ2
            clear F53 N53
            by_cases hall : ∀ n ∈ st, n % (1 + (i : Int)) = 0
            all_goals (
              first | have hbb := hJ2.full hall | have hbb := hJ2.rest hall
              walk_at "MY steps4"
              refine wpAny_newObj_type ?_
              obtain ⟨F55, N55, l55⟩ := comp_new (h := h2.push { cls := .type "list", dict := none, data := .seq ([] : List Value).toArray }) (D := h2.objs.size) (o := listOf #[] 0) F54 N54 (fun b o e => Heap.get?_push_of_some _ e) (Nat.le_refl _) (Heap.get?_push_size _ rfl)
              clear F54 N54
              walk_at "MY steps"
              refine ⟨⟨_, _, rfl, fun b o e => Heap.get?_push_of_some _ (K6 b o e)⟩, ?_⟩
              (try simp only [if_true, Bool.false_eq_true, if_false]))
            · walk_at "MY steps"
              rw [shareds_yes hall]
              exact ⟨⟨_, _, rfl, fun _ _ e => e⟩, IntsL.push hJ⟩
            · rw [shareds_no hall]
              exact hJ
        case fin5 =>
          intro h tk ys kp hL hJ hns hT5
          obtain ⟨F60, N60⟩ := comp_stored F51 N51 (fun b o hb e => kp b o (fun q => hb (Option.some.inj q).symm) e) hns
          have N61 : News _ _ _ ((h51.objs.size + 1, listOf ys.toArray ys.length) :: (_, oC) :: rest) := News.ofMem F51 N60 (fun p hp => by
            rcases List.mem_cons.mp hp with rfl | hp
            · exact .inr ⟨Nat.le_succ _, hL⟩
            · exact .inl hp)
          clear F51 N51 N60 kp hL
          obtain ⟨g, hg, hG⟩ := great_last (st := st) (mm := mm) (fun z hz => (J.ok.bd z hz).1) hM51
          obtain ⟨hg1, hg2⟩ := great_le J.ok.bd hG hM51
          have hsz64 : (szs l).length < 64 := by rw [szs_len]; omega
          walk_at "MY steps5"
          rename Fr _ _ _ _ => F70
          rename News _ _ _ _ => N70
          rename IsRange _ _ _ _ _ _ _ _ => R70
          rename Int => M70
          rename (∀ a : Int, a ∈ st → a ≤ _) => hm70
          rename _ ∈ st => hM70
          rename List.Pairwise _ _ => hs70
          rename List.Perm _ _ => hp70
          obtain ⟨hM3, hM4⟩ := J.ok.bd _ hM70
          obtain ⟨MM, rfl⟩ : ∃ MM : Nat, M70 = (MM : Int) := ⟨M70.toNat, by omega⟩
          rw [szs_map] at hp70
          obtain ⟨g1, g2, g3, hfin⟩ := law_last hInv hM70 hm70 J.ok.bd hG hp70 hs70
          simp only [Int.toNat_natCast] at g2 g3 hfin
          have hdv := Nat.div_le_self MM g
          refine list_rng (s := ⟨_, _, _, _, _⟩) rfl F70 N70 R70 (small_g g1 g2 (by omega)) (rangeSize_g g1 g2) (by omega) ?_
          intro D80 us80 k80 h80 tk80 F80 N80 i80
          clear F70 N70
          (try dsimp only)
          walk_at "MY steps6"
          rename Fr _ _ _ _ => F90
          exact goodW_bool F90 (by assumption) (raises_none _) (post_true _) rfl
end Mine

theorem PySem.Challenge.cw_wn0056_01_holds : PySem.Challenge.rw_wn0056_01.Holds := by
  exact Mine.lawX
