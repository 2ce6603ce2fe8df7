import PyProof.Rows.All
import Wide.All
import OpenK.AllK
import Wide.FinOn
import Lean
import PySem.Challenge.RW_ph0053_01
open PySem PySem.W PyProof.Rows PySem.Calls PySem.Spec
set_option Elab.async false
set_option maxRecDepth 100000
namespace Mine
/-! texts as lists of codes -/
def St (l : List Nat) : Str := ⟨l.toArray⟩
theorem St_len (l : List Nat) : (St l).length = l.length := by simp [St, Str.length]
theorem St_cps (l : List Nat) : (St l).cps.toList = l := by simp [St]
theorem St_inj {a b : List Nat} (h : St a = St b) : a = b := by
  have := congrArg (fun x : Str => x.cps.toList) h
  simpa [St] using this
theorem St_beq (a b : List Nat) : (St a == St b) = decide (a = b) := by
  by_cases h : a = b
  · subst h; simp
  · have : ¬ St a = St b := fun e => h (St_inj e)
    simp [h, this]
theorem St_app (a b : List Nat) : St a ++ St b = St (a ++ b) := by
  apply Str.ext'
  rw [Str.cps_append]
  simp [St]
theorem St_one (c : Nat) : St [c] = ⟨#[c]⟩ := rfl
theorem slice_from {l : List Nat} {i : Int} (h0 : 0 ≤ i) (h1 : i ≤ l.length) : Txt.slice (St l) (some i) none = St (l.drop i.toNat) := by
  have h := StrLaws.sliceText_from (x := St l) (i := i) ⟨h0, by rw [St_cps]; exact h1⟩
  rw [St_cps] at h
  refine Eq.trans h ?_
  unfold St
  congr 2
  exact List.take_of_length_le (by rw [List.length_drop]; omega)
theorem slice_to {l : List Nat} {j : Int} (h0 : j < 0) (h1 : -(l.length : Int) ≤ j) : Txt.slice (St l) none (some j) = St (l.take (j + l.length).toNat) := by
  have h := StrLaws.sliceText_to_neg (x := St l) (j := j) h0 (by rw [St_len]; exact h1)
  rw [St_cps, St_len] at h
  refine Eq.trans h ?_
  rw [List.drop_zero, Int.sub_zero]
  rfl
theorem slice_all (l : List Nat) : Txt.slice (St l) none none = St l := by
  have h : StrLaws.sliceText (St l) none none = StrLaws.sliceText (St l) none (some (l.length : Int)) := by
    unfold StrLaws.sliceText
    rw [StrLaws.sliceIdx_none_hi, St_len]
  refine Eq.trans h ?_
  rw [StrLaws.sliceText_to ⟨by omega, by rw [St_cps]; omega⟩, St_cps]
  unfold St
  congr 2
  rw [List.drop_zero, Int.sub_zero]
  exact List.take_of_length_le (by omega)
theorem item_at {l : List Nat} {i : Int} (h0 : 0 ≤ i) (h1 : i < l.length) : Txt.item (St l) i = St [l.getD i.toNat 0] := by
  have hl : i.toNat < l.length := by omega
  have e : Txt.charAt (St l) i = some (l.getD i.toNat 0) := by
    refine StrLaws.at_nonneg h0 ?_
    simp [St, hl]
  unfold Txt.item
  rw [e]
  rfl
theorem item_neg {l : List Nat} {i : Int} (h0 : i < 0) (h1 : -(l.length : Int) ≤ i) : Txt.item (St l) i = St [l.getD (i + l.length).toNat 0] := by
  have hl : (i + l.length).toNat < l.length := by omega
  have e : Txt.charAt (St l) i = some (l.getD (i + l.length).toNat 0) := by
    refine StrLaws.at_neg h0 (by rw [St_len]; exact h1) ?_
    rw [St_len]
    simp [St, hl]
  unfold Txt.item
  rw [e]
  rfl
/-- a sign's lower form, below 128 -/
def lowc (c : Nat) : Nat := if 65 ≤ c ∧ c ≤ 90 then c + 32 else c
def subc (c d : Nat) : Int := if c = d then 0 else if lowc c = lowc d then 1 else 2
theorem lower_one {c : Nat} (h : c < 128) : Txt.lower (St [c]) = St [lowc c] :=
  (by decide +kernel : ∀ c, c < 128 → Txt.lower ⟨#[c]⟩ = ⟨#[lowc c]⟩) c h

theorem pos_bne (n : Nat) : ((n : Int) != 0) = decide (0 < n) := by
  cases n with
  | zero => rfl
  | succ n =>
    have e : (((n + 1 : Nat) : Int) != 0) = true := bne_iff_ne.mpr (by omega)
    rw [e]; simp
theorem lowc_lo {c : Nat} (h : c < 128) : lo1 c = lowc c := (by decide +kernel : ∀ c, c < 128 → lo1 c = lowc c) c h
theorem lower_St {l : List Nat} (h : ∀ c ∈ l, c < 128) : Txt.lower (St l) = St (l.map lowc) := by
  rw [lower_ascii (x := St l) (by rw [St_cps]; exact h)]
  apply Str.ext'
  show (St l).cps.map lo1 = (l.map lowc).toArray
  have : (l.map lowc) = l.map lo1 := List.map_congr_left fun c hc => (lowc_lo (h c hc)).symm
  rw [this]
  simp [St]
section
variable {prog : Program} {w : World} {A : Around} {E : Value → Shared → Prop} {s : Shared} {h₀ : Heap} {L : Addr} {m : Str → Option Value} {news : List (Addr × Obj)} {value slice : PySem.Expr} {l : List Nat} {t : Tok} {Q : Value → Shared → Prop}
theorem w_from {i : Int} {ui : Tok} (hF : Fr h₀ L s.heap m) (hN : News h₀ L s.heap news) (h0 : 0 ≤ i) (h1 : i ≤ l.length) (hz : l.length ≤ 1000)
    (h : ∀ h' t' k, Fr h₀ L h' m → News h₀ L h' news → Q (.str (St (l.drop i.toNat)) t') { s with heap := h', toks := k })
    (hs : subscripted slice false (.str (St l) t) (.ref s.heap.objs.size) = operate [.ref s.heap.objs.size, .str (St l) t] (getItem (.str (St l) t) (.ref s.heap.objs.size)))
    (ht : ∀ r, letTemporaryGo value (.str (St l) t) r = pure ()) :
    wpAny (model prog w) A (subscriptTail value slice (.str (St l) t) (.ref s.heap.objs.size)) Q E { s with heap := s.heap.push { cls := .type "slice", data := .fields #[.int i ui, .none, .none] } } :=
  slice_strN_sn hF hN (fun h' t' k a b => by rw [slice_from h0 h1]; exact h h' t' k a b) hs ht (by rw [St_len, sizeLine_eq]; omega)
theorem w_to {j : Int} {uj : Tok} (hF : Fr h₀ L s.heap m) (hN : News h₀ L s.heap news) (h0 : j < 0) (h1 : -(l.length : Int) ≤ j) (hz : l.length ≤ 1000)
    (h : ∀ h' t' k, Fr h₀ L h' m → News h₀ L h' news → Q (.str (St (l.take (j + l.length).toNat)) t') { s with heap := h', toks := k })
    (hs : subscripted slice false (.str (St l) t) (.ref s.heap.objs.size) = operate [.ref s.heap.objs.size, .str (St l) t] (getItem (.str (St l) t) (.ref s.heap.objs.size)))
    (ht : ∀ r, letTemporaryGo value (.str (St l) t) r = pure ()) :
    wpAny (model prog w) A (subscriptTail value slice (.str (St l) t) (.ref s.heap.objs.size)) Q E { s with heap := s.heap.push { cls := .type "slice", data := .fields #[.none, .int j uj, .none] } } :=
  slice_strN_ns hF hN (fun h' t' k a b => by rw [slice_to h0 h1]; exact h h' t' k a b) hs ht (by rw [St_len, sizeLine_eq]; omega)
theorem w_all (hF : Fr h₀ L s.heap m) (hN : News h₀ L s.heap news) (hz : l.length ≤ 1000)
    (h : ∀ h' t' k, Fr h₀ L h' m → News h₀ L h' news → Q (.str (St l) t') { s with heap := h', toks := k })
    (hs : subscripted slice false (.str (St l) t) (.ref s.heap.objs.size) = operate [.ref s.heap.objs.size, .str (St l) t] (getItem (.str (St l) t) (.ref s.heap.objs.size)))
    (ht : ∀ r, letTemporaryGo value (.str (St l) t) r = pure ()) :
    wpAny (model prog w) A (subscriptTail value slice (.str (St l) t) (.ref s.heap.objs.size)) Q E { s with heap := s.heap.push { cls := .type "slice", data := .fields #[.none, .none, .none] } } :=
  slice_strN_nn hF hN (fun h' t' k a b => by rw [slice_all]; exact h h' t' k a b) hs ht (by rw [St_len, sizeLine_eq]; omega)
theorem fits_small {i : Int} (h0 : -2000 ≤ i) (h1 : i ≤ 2000) : fitsSsize i = true := fitsSsize_of (N := 9223372036854775808) (by omega) (by omega) (Int.le_refl _)
theorem w_item {i : Int} {u : Tok} (h0 : 0 ≤ i) (h1 : i < l.length) (hz : l.length ≤ 1000) (h : ∀ k, Q (.str (St [l.getD i.toNat 0]) k) { s with toks := k + 1 })
    (hs : subscripted slice false (.str (St l) t) (.int i u) = operate [.str (St l) t, .int i u] (getItem (.str (St l) t) (.int i u)))
    (ht : ∀ r, letTemporaryGo value (.str (St l) t) r = pure ()) :
    wpAny (model prog w) A (subscriptTail value slice (.str (St l) t) (.int i u)) Q E s :=
  item_str (fits_small (by omega) (by omega)) (by rw [St_len]; omega) (by rw [St_len]; omega) (fun _ => by rw [item_at h0 h1]; exact h _) hs ht
theorem w_itemN {i : Int} {u : Tok} (h0 : i < 0) (h1 : -(l.length : Int) ≤ i) (hz : l.length ≤ 1000) (h : ∀ k, Q (.str (St [l.getD (i + l.length).toNat 0]) k) { s with toks := k + 1 })
    (hs : subscripted slice false (.str (St l) t) (.int i u) = operate [.str (St l) t, .int i u] (getItem (.str (St l) t) (.int i u)))
    (ht : ∀ r, letTemporaryGo value (.str (St l) t) r = pure ()) :
    wpAny (model prog w) A (subscriptTail value slice (.str (St l) t) (.int i u)) Q E s :=
  item_str (fits_small (by omega) (by omega)) (by rw [St_len]; omega) (by rw [St_len]; omega) (fun _ => by rw [item_neg h0 h1]; exact h _) hs ht
theorem w_truthy {Q : Bool → Shared → Prop} (hz : l.length ≤ 1000) (h : ∀ k, Q (decide (0 < l.length)) { s with toks := k }) : wpAny (model prog w) A (PySem.truthy (.str (St l) t)) Q E s :=
  KXt.truthy (by rw [St_len]; exact pos_bne _) (by rw [St_len]; omega) h
theorem w_len (hz : l.length ≤ 1000) (h : ∀ k, Q (.int (l.length : Int) k) { s with toks := k + 1 }) : wpAny (model prog w) A (call (.builtin "len") [.str (St l) t]) Q E s := by
  refine P.len_str (by rw [St_len]; omega) ?_
  rw [St_len]
  exact h _
theorem w_low (hz : l.length ≤ 1000) (hc : ∀ c ∈ l, c < 128) (h : ∀ k, Q (.str (St (l.map lowc)) k) { s with toks := k + 1 }) : wpAny (model prog w) A (call (.builtin "str.lower") [.str (St l) t]) Q E s := by
  refine SCL.lower (by rw [St_len]; omega) ?_
  rw [lower_St hc]
  exact fun _ => h _
theorem w_add {x y : Str} {a b : List Nat} {u : Tok} (hx : x = St a) (hy : y = St b) (hz : a.length + b.length ≤ 1000) (h : ∀ t' k, Q (.str (St (a ++ b)) t') { s with toks := k }) : wpAny (model prog w) A (binaryOp .Add (.str x t) (.str y u)) Q E s := by
  subst hx hy
  refine KOpn.add (by rw [St_len, St_len]; omega) fun t' k _ => ?_
  rw [St_app]
  exact h t' k
theorem w_truth {Q : Bool → Shared → Prop} (hz : l.length ≤ 1000) (h1 : 0 < l.length → ∀ k, Q true { s with toks := k }) (h0 : l.length = 0 → ∀ k, Q false { s with toks := k }) : wpAny (model prog w) A (PySem.truthy (.str (St l) t)) Q E s := by
  refine w_truthy hz fun k => ?_
  by_cases hl : 0 < l.length
  · simp only [hl, decide_true]; exact h1 hl k
  · simp only [hl, decide_false]; exact h0 (by omega) k
theorem w_eq {a b : List Nat} {t u : Tok} (h1 : a = b → Q (.bool true) s) (h0 : a ≠ b → Q (.bool false) s) : wpAny (model prog w) A (compareOp .Eq (.str (St a) t) (.str (St b) u)) Q E s := by
  refine P.eq_str ?_
  rw [St_cps, St_cps]
  by_cases h : a = b
  · rw [beq_iff_eq.mpr h]; exact h1 h
  · rw [beq_eq_false_iff_ne.mpr h]; exact h0 h
end
/-! the distance, as the text reckons it -/
def cpl : List Nat → List Nat → Nat
  | x :: a, y :: b => if x = y then cpl a b + 1 else 0
  | _, _ => 0
def row0 (n : Nat) : List Int := (List.range n).map fun (i : Nat) => 2 + 2 * (i : Int)
def cells (a : List Nat) (c : Nat) (row : List Int) (d : Int) : Nat → List Int × Int × Int × Int
  | 0 => (row, d, d, 9223372036854775807)
  | i + 1 =>
    let z := cells a c row d i
    let r := z.1.getD i 0
    let p := (if r < z.2.2.1 then r else z.2.2.1) + 2
    let q := z.2.1 + subc c (a.getD i 0)
    let v := if q < p then q else p
    (z.1.set i v, r, v, if v < z.2.2.2 then v else z.2.2.2)
def rows (a b : List Nat) (m : Int) : Nat → Option (List Int × Int)
  | 0 => some (row0 a.length, 0)
  | n + 1 => match rows a b m n with
    | none => none
    | some z =>
      let c := cells a (b.getD n 0) z.1 ((n : Int) * 2) a.length
      if m < c.2.2.2 then none else some (c.1, c.2.2.1)
def core (a b : List Nat) (m : Int) : Int :=
  if m < ((b.length : Int) - a.length) * 2 then m + 1 else match rows a b m b.length with
    | none => m + 1
    | some z => z.2
def mid (a b : List Nat) (m : Int) : Int :=
  if a = [] ∨ b = [] then 2 * ((a.length : Int) + b.length) else if b.length < a.length then core b a m else core a b m
def cutEnd (a b : List Nat) : Nat := cpl a.reverse b.reverse
def ends (a b : List Nat) (m : Int) : Int := mid (a.take (a.length - cutEnd a b)) (b.take (b.length - cutEnd a b)) m
def lev (a b : List Nat) (m : Int) : Int :=
  if a = b then 0 else ends (a.drop (cpl a b)) (b.drop (cpl a b)) m
theorem ints_of_items : ∀ {ns : List Int} {vs : List Value}, vs.length = ns.length → (∀ (j : Nat) (v : Value), vs[j]? = some v → ∃ t, v = Value.int (ns.getD j 0) t) → IntsAre vs ns
  | [], [], _, _ => .nil
  | [], _ :: _, h, _ => by simp at h
  | _ :: _, [], h, _ => by simp at h
  | n :: ns, v :: vs, h, hj => by
    obtain ⟨t, e⟩ := hj 0 v rfl
    have e : v = .int n t := e
    subst e
    exact .cons n t (ints_of_items (by simpa using h) fun j v hv => by simpa using hj (j + 1) v (by simpa using hv))
theorem row0_len (n : Nat) : (row0 n).length = n := by simp [row0]
theorem row0_at {n j : Nat} (h : j < n) : (row0 n).getD j 0 = 2 + (j : Int) * 2 := by
  simp [row0, h, Int.mul_comm]
theorem size_two (n : Nat) : Builtin.Range.rangeSize 2 (2 * ((n : Int) + 1)) 2 = (n : Int) := by
  unfold Builtin.Range.rangeSize
  rw [if_pos (by decide)]
  split
  · omega
  · omega
theorem small_two {n : Nat} (hn : n ≤ 1000) : Builtin.Range.small 2 (2 * ((n : Int) + 1)) 2 = true := by
  have fl : ∀ {i : Int}, -9999 ≤ i → i ≤ 9999 → Builtin.Range.rangeFitsLong i = true := fun h1 h2 => by
    unfold Builtin.Range.rangeFitsLong
    rw [Bool.and_eq_true, decide_eq_true_eq, decide_eq_true_eq]
    omega
  unfold Builtin.Range.small
  rw [size_two, fl (by omega) (by omega), fl (by omega) (by omega), fl (by omega) (by omega), fl (by omega) (by omega), if_pos (by decide)]
  simp
theorem w_rows {prog : Program} {w : World} {A : Around} {E : Value → Shared → Prop} {s : Shared} {h₀ : Heap} {L : Addr} {m : Str → Option Value} {news : List (Addr × Obj)} {Q : Value → Shared → Prop} {r : Addr} {n : Nat} {t u v : Tok}
    (hh : A.handled = none) (F : Fr h₀ L s.heap m) (N : News h₀ L s.heap news) (hr : IsRange s.heap r 2 (2 * ((n : Int) + 1)) 2 t u v) (hn : n ≤ 1000)
    (h : ∀ D ys c h' tk, Fr h₀ L h' m → News h₀ L h' ((D, listOf ys.toArray c) :: news) → (∀ p ∈ news, p.1 < D) → IntsAre ys (row0 n) → Q (.ref D) { s with heap := h', toks := tk }) :
    wpAny (model prog w) A (call (.type "list") [.ref r]) Q E s := by
  refine call_list_range hh hr (small_two hn) (size_two n) (by omega) fun h' tk acc' c' hk hS' hacc => ?_
  have hL : s.heap.objs.size ≠ L := Nat.ne_of_gt F.ns.lt
  refine h s.heap.objs.size acc'.toList c' h' tk (F.keeps hk) ?_ (fun p hp => Heap.lt_size (N p hp).1) (ints_of_items ?_ fun j v hv => ?_)
  · intro p hp
    rcases List.mem_cons.mp hp with rfl | hp
    · refine ⟨by simpa using hS', hL, ?_⟩
      cases e : h₀.get? s.heap.objs.size with
      | none => rfl
      | some o => exact absurd (Heap.lt_size (F.keep _ _ e)) (Nat.lt_irrefl _)
    · exact ⟨hk _ _ (N p hp).1, (N p hp).2⟩
  · rw [row0_len, Array.length_toList]; exact hacc.1
  · have hv' : acc'[j]? = some v := by simpa using hv
    obtain ⟨t, rfl⟩ := hacc.2 j v hv'
    have hj : j < n := by
      have := (Array.getElem?_eq_some_iff.mp hv').1
      rw [hacc.1] at this; exact this
    exact ⟨t, by rw [row0_at hj]⟩
theorem getD_lt {l : List Nat} (h : ∀ c ∈ l, c < 128) (i : Nat) : l.getD i 0 < 128 := by
  by_cases hi : i < l.length
  · have : l.getD i 0 = l[i] := by simp [hi]
    rw [this]; exact h _ (List.getElem_mem hi)
  · have : l.getD i 0 = 0 := by simp [Nat.not_lt.mp hi]
    omega
theorem cells_lt {sa : List Nat} {c : Nat} {r0 row : List Int} {d dist res mn k : Int} {pre : List Int} (h : cells sa c r0 d pre.length = (row, dist, res, mn)) (hk : k = 0 + (pre.length : Int)) (hl : row.length = sa.length)
    (hv : (if dist + subc c (sa.getD k.toNat 0) < (if row.getD k.toNat 0 < res then row.getD k.toNat 0 else res) + 2 then dist + subc c (sa.getD k.toNat 0) else (if row.getD k.toNat 0 < res then row.getD k.toNat 0 else res) + 2) < mn) :
    cells sa c r0 d (pre ++ [k]).length = (row.set k.toNat (if dist + subc c (sa.getD k.toNat 0) < (if row.getD k.toNat 0 < res then row.getD k.toNat 0 else res) + 2 then dist + subc c (sa.getD k.toNat 0) else (if row.getD k.toNat 0 < res then row.getD k.toNat 0 else res) + 2), row.getD k.toNat 0, (if dist + subc c (sa.getD k.toNat 0) < (if row.getD k.toNat 0 < res then row.getD k.toNat 0 else res) + 2 then dist + subc c (sa.getD k.toNat 0) else (if row.getD k.toNat 0 < res then row.getD k.toNat 0 else res) + 2), (if dist + subc c (sa.getD k.toNat 0) < (if row.getD k.toNat 0 < res then row.getD k.toNat 0 else res) + 2 then dist + subc c (sa.getD k.toNat 0) else (if row.getD k.toNat 0 < res then row.getD k.toNat 0 else res) + 2)) ∧
    (row.set k.toNat (if dist + subc c (sa.getD k.toNat 0) < (if row.getD k.toNat 0 < res then row.getD k.toNat 0 else res) + 2 then dist + subc c (sa.getD k.toNat 0) else (if row.getD k.toNat 0 < res then row.getD k.toNat 0 else res) + 2)).length = sa.length := by
  have hkn : k.toNat = pre.length := by omega
  rw [hkn] at hv ⊢
  refine ⟨?_, by rw [List.length_set]; exact hl⟩
  rw [List.length_append, List.length_singleton]
  simp only [cells, h]
  rw [if_pos hv]
theorem cells_ge {sa : List Nat} {c : Nat} {r0 row : List Int} {d dist res mn k : Int} {pre : List Int} (h : cells sa c r0 d pre.length = (row, dist, res, mn)) (hk : k = 0 + (pre.length : Int)) (hl : row.length = sa.length)
    (hv : ¬ (if dist + subc c (sa.getD k.toNat 0) < (if row.getD k.toNat 0 < res then row.getD k.toNat 0 else res) + 2 then dist + subc c (sa.getD k.toNat 0) else (if row.getD k.toNat 0 < res then row.getD k.toNat 0 else res) + 2) < mn) :
    cells sa c r0 d (pre ++ [k]).length = (row.set k.toNat (if dist + subc c (sa.getD k.toNat 0) < (if row.getD k.toNat 0 < res then row.getD k.toNat 0 else res) + 2 then dist + subc c (sa.getD k.toNat 0) else (if row.getD k.toNat 0 < res then row.getD k.toNat 0 else res) + 2), row.getD k.toNat 0, (if dist + subc c (sa.getD k.toNat 0) < (if row.getD k.toNat 0 < res then row.getD k.toNat 0 else res) + 2 then dist + subc c (sa.getD k.toNat 0) else (if row.getD k.toNat 0 < res then row.getD k.toNat 0 else res) + 2), mn) ∧
    (row.set k.toNat (if dist + subc c (sa.getD k.toNat 0) < (if row.getD k.toNat 0 < res then row.getD k.toNat 0 else res) + 2 then dist + subc c (sa.getD k.toNat 0) else (if row.getD k.toNat 0 < res then row.getD k.toNat 0 else res) + 2)).length = sa.length := by
  have hkn : k.toNat = pre.length := by omega
  rw [hkn] at hv ⊢
  refine ⟨?_, by rw [List.length_set]; exact hl⟩
  rw [List.length_append, List.length_singleton]
  simp only [cells, h]
  rw [if_neg hv]
theorem rows_next {sa sb : List Nat} {m : Int} {n : Nat} {r0 row : List Int} {x dist res mn : Int} (h : rows sa sb m n = some (r0, x)) (hc : cells sa (sb.getD n 0) r0 ((n : Int) * 2) sa.length = (row, dist, res, mn)) :
    rows sa sb m (n + 1) = if m < mn then none else some (row, res) := by
  simp only [rows, h, hc]
theorem rows_s {sa sb : List Nat} {m k : Int} {pre : List Int} {r0 row : List Int} {x dist res mn : Int} {N : Nat} (h : rows sa sb m pre.length = some (r0, x)) (hk : k = 0 + (pre.length : Int)) (hc : cells sa (sb.getD k.toNat 0) r0 (k * 2) N = (row, dist, res, mn)) (hN : N = sa.length)
    (hl : row.length = sa.length) (hm : ¬ m < mn) : rows sa sb m (pre ++ [k]).length = some (row, res) ∧ row.length = sa.length := by
  have hkn : k.toNat = pre.length := by omega
  have hk2 : k * 2 = (pre.length : Int) * 2 := by omega
  rw [hkn, hk2, hN] at hc
  rw [List.length_append, List.length_singleton, rows_next h hc, if_neg hm]
  exact ⟨rfl, hl⟩
theorem rows_none {sa sb : List Nat} {m : Int} {n : Nat} (h : rows sa sb m n = none) : ∀ j, rows sa sb m (n + j) = none
  | 0 => h
  | j + 1 => by
    have := rows_none h j
    rw [← Nat.add_assoc]
    simp only [rows, this]
theorem core_early {sa sb : List Nat} {m k : Int} {pre : List Int} {r0 row : List Int} {x dist res mn : Int} {N : Nat} (h : rows sa sb m pre.length = some (r0, x)) (hk : k = 0 + (pre.length : Int)) (hc : cells sa (sb.getD k.toNat 0) r0 (k * 2) N = (row, dist, res, mn)) (hN : N = sa.length)
    (hm : m < mn) (hlt : pre.length < sb.length) : m + 1 = core sa sb m := by
  have hkn : k.toNat = pre.length := by omega
  have hk2 : k * 2 = (pre.length : Int) * 2 := by omega
  rw [hkn, hk2, hN] at hc
  have h1 : rows sa sb m (pre.length + 1) = none := by rw [rows_next h hc, if_pos hm]
  have h2 := rows_none h1 (sb.length - (pre.length + 1))
  have e : pre.length + 1 + (sb.length - (pre.length + 1)) = sb.length := by omega
  rw [e] at h2
  unfold core
  split
  · rfl
  · rw [h2]
theorem core_end {sa sb : List Nat} {m : Int} {row : List Int} {res : Int} {N : Nat} (h : rows sa sb m N = some (row, res)) (hN : N = sb.length) (hm : ¬ m < ((sb.length : Int) - sa.length) * 2) : res = core sa sb m := by
  subst hN
  unfold core
  rw [if_neg hm, h]
theorem cpl_le : ∀ a b : List Nat, cpl a b ≤ a.length ∧ cpl a b ≤ b.length
  | [], b => by simp [cpl]
  | _ :: _, [] => by simp [cpl]
  | x :: a, y :: b => by
    have h := cpl_le a b
    simp only [cpl]
    split <;> simp <;> omega
theorem cpl_nil_l (b : List Nat) : cpl [] b = 0 := by simp [cpl]
theorem cpl_nil_r (a : List Nat) : cpl a [] = 0 := by cases a <;> simp [cpl]
abbrev Inv1 (la lb : List Nat) (pre : Int) : Prop := 0 ≤ pre ∧ pre ≤ la.length ∧ pre ≤ lb.length ∧ cpl la lb = pre.toNat + cpl (la.drop pre.toNat) (lb.drop pre.toNat)
theorem inv1_0 (la lb : List Nat) : Inv1 la lb 0 := ⟨by omega, by omega, by omega, by simp⟩
theorem drop_at {l : List Nat} {n : Nat} (h : n < l.length) : l.drop n = l.getD n 0 :: l.drop (n + 1) := by
  rw [List.drop_eq_getElem_cons h]
  simp [h]
theorem inv1_s {la lb : List Nat} {p : Int} (h0 : 0 ≤ p) (h1 : p ≤ la.length) (h2 : p ≤ lb.length) (h : cpl la lb = p.toNat + cpl (la.drop p.toNat) (lb.drop p.toNat))
    (ha : 0 < (la.drop p.toNat).length) (hb : 0 < (lb.drop p.toNat).length) (e : [la.getD p.toNat 0] = [lb.getD p.toNat 0]) : Inv1 la lb (p + 1) := by
  rw [List.length_drop] at ha hb
  refine ⟨by omega, by omega, by omega, ?_⟩
  have e' : la.getD p.toNat 0 = lb.getD p.toNat 0 := List.head_eq_of_cons_eq e
  rw [drop_at (l := la) (n := p.toNat) (by omega), drop_at (l := lb) (n := p.toNat) (by omega), cpl, if_pos e'] at h
  have e2 : (p + 1).toNat = p.toNat + 1 := by omega
  rw [e2]; omega
theorem inv1_e1 {la lb : List Nat} {p : Int} (h0 : 0 ≤ p) (h : cpl la lb = p.toNat + cpl (la.drop p.toNat) (lb.drop p.toNat)) (ha : (la.drop p.toNat).length = 0) : ((cpl la lb : Nat) : Int) = p := by
  rw [List.length_eq_zero_iff] at ha
  rw [ha, cpl_nil_l] at h; omega
theorem inv1_e2 {la lb : List Nat} {p : Int} (h0 : 0 ≤ p) (h : cpl la lb = p.toNat + cpl (la.drop p.toNat) (lb.drop p.toNat)) (hb : (lb.drop p.toNat).length = 0) : ((cpl la lb : Nat) : Int) = p := by
  rw [List.length_eq_zero_iff] at hb
  rw [hb, cpl_nil_r] at h; omega
theorem inv1_e3 {la lb : List Nat} {p : Int} (h0 : 0 ≤ p) (h : cpl la lb = p.toNat + cpl (la.drop p.toNat) (lb.drop p.toNat))
    (ha : 0 < (la.drop p.toNat).length) (hb : 0 < (lb.drop p.toNat).length) (e : [la.getD p.toNat 0] ≠ [lb.getD p.toNat 0]) : ((cpl la lb : Nat) : Int) = p := by
  rw [List.length_drop] at ha hb
  have e' : ¬ la.getD p.toNat 0 = lb.getD p.toNat 0 := fun q => e (by rw [q])
  rw [drop_at (l := la) (n := p.toNat) (by omega), drop_at (l := lb) (n := p.toNat) (by omega), cpl, if_neg e'] at h
  omega
def sh (a b : List Nat) : List Nat := if b.length < a.length then b else a
def lg (a b : List Nat) : List Nat := if b.length < a.length then a else b
theorem mid_core {a b : List Nat} {m : Int} (ha : 0 < a.length) (hb : 0 < b.length) : mid a b m = core (sh a b) (lg a b) m := by
  have h1 : ¬ (a = [] ∨ b = []) := by rintro (rfl | rfl) <;> simp at *
  unfold mid sh lg
  rw [if_neg h1]
  split <;> rfl
theorem sh_lg (a b : List Nat) : (sh a b).length ≤ (lg a b).length := by unfold sh lg; split <;> omega
theorem sh_or (a b : List Nat) : (sh a b = a ∧ lg a b = b) ∨ (sh a b = b ∧ lg a b = a) := by unfold sh lg; split <;> simp
abbrev Inv2 (a b : List Nat) (p : Int) : Prop := p ≤ 0 ∧ -p ≤ a.length ∧ -p ≤ b.length ∧ cutEnd a b = (-p).toNat + cpl (a.reverse.drop (-p).toNat) (b.reverse.drop (-p).toNat)
theorem inv2_0 (a b : List Nat) : Inv2 a b 0 := ⟨by omega, by omega, by omega, by simp [cutEnd]⟩
theorem inv2_up {a b : List Nat} {p : Int} (h0 : p ≤ 0) (h1 : -p ≤ a.length) (h2 : -p ≤ b.length) (h : cutEnd a b = (-p).toNat + cpl (a.reverse.drop (-p).toNat) (b.reverse.drop (-p).toNat)) : Inv1 a.reverse b.reverse (-p) :=
  ⟨by omega, by rw [List.length_reverse]; omega, by rw [List.length_reverse]; omega, h⟩
theorem rev_at {a : List Nat} {p : Int} (h0 : p ≤ 0) (hA : 0 < (a.length : Int) + p) : a.getD (p - 1 + a.length).toNat 0 = a.reverse.getD (-p).toNat 0 := by
  have h1 : (-p).toNat < a.length := by omega
  have h2 : (p - 1 + a.length).toNat < a.length := by omega
  rw [List.getD_eq_getElem?_getD, List.getD_eq_getElem?_getD, List.getElem?_reverse h1]
  congr 2
  omega
theorem inv2_s {a b : List Nat} {p : Int} (h0 : p ≤ 0) (h1 : -p ≤ a.length) (h2 : -p ≤ b.length) (h : cutEnd a b = (-p).toNat + cpl (a.reverse.drop (-p).toNat) (b.reverse.drop (-p).toNat))
    (hA : 0 < (a.length : Int) + p) (hB : 0 < (b.length : Int) + p) (e : [a.getD (p - 1 + a.length).toNat 0] = [b.getD (p - 1 + b.length).toNat 0]) : Inv2 a b (p - 1) := by
  obtain ⟨i0, i1, i2, i3⟩ := inv2_up h0 h1 h2 h
  rw [rev_at h0 hA, rev_at h0 hB] at e
  obtain ⟨j0, j1, j2, j3⟩ := inv1_s i0 i1 i2 i3 (by rw [List.length_drop, List.length_reverse]; omega) (by rw [List.length_drop, List.length_reverse]; omega) e
  have e2 : -(p - 1) = -p + 1 := by omega
  refine ⟨by omega, by omega, by omega, by rw [e2]; exact j3⟩
theorem inv2_e1 {a b : List Nat} {p : Int} (h0 : p ≤ 0) (h : cutEnd a b = (-p).toNat + cpl (a.reverse.drop (-p).toNat) (b.reverse.drop (-p).toNat)) (hA : (a.length : Int) + p ≤ 0) : -((cutEnd a b : Nat) : Int) = p := by
  have := inv1_e1 (la := a.reverse) (lb := b.reverse) (p := -p) (by omega) h (by rw [List.length_drop, List.length_reverse]; omega)
  unfold cutEnd; omega
theorem inv2_e2 {a b : List Nat} {p : Int} (h0 : p ≤ 0) (h : cutEnd a b = (-p).toNat + cpl (a.reverse.drop (-p).toNat) (b.reverse.drop (-p).toNat)) (hB : (b.length : Int) + p ≤ 0) : -((cutEnd a b : Nat) : Int) = p := by
  have := inv1_e2 (la := a.reverse) (lb := b.reverse) (p := -p) (by omega) h (by rw [List.length_drop, List.length_reverse]; omega)
  unfold cutEnd; omega
theorem inv2_e3 {a b : List Nat} {p : Int} (h0 : p ≤ 0) (h : cutEnd a b = (-p).toNat + cpl (a.reverse.drop (-p).toNat) (b.reverse.drop (-p).toNat))
    (hA : 0 < (a.length : Int) + p) (hB : 0 < (b.length : Int) + p) (e : [a.getD (p - 1 + a.length).toNat 0] ≠ [b.getD (p - 1 + b.length).toNat 0]) : -((cutEnd a b : Nat) : Int) = p := by
  rw [rev_at h0 hA, rev_at h0 hB] at e
  have := inv1_e3 (la := a.reverse) (lb := b.reverse) (p := -p) (by omega) h (by rw [List.length_drop, List.length_reverse]; omega) (by rw [List.length_drop, List.length_reverse]; omega) e
  unfold cutEnd; omega
theorem cutEnd_le (a b : List Nat) : cutEnd a b ≤ a.length ∧ cutEnd a b ≤ b.length := by
  have := cpl_le a.reverse b.reverse
  simpa [cutEnd] using this
/-! bytes -/
abbrev apB : Array UInt8 := #[65, 66, 67, 68, 69, 70, 71, 72, 73, 74, 75, 76, 77, 78, 79, 80]
theorem ap_all : ∀ m : Nat, m < 16 → KBw.bInts (KBy.picked apB (some (m : Int)) (some ((m : Int) + 1))) = [65 + (m : Int)] := by decide +kernel
theorem ap_pick {m : Int} (h0 : 0 ≤ m) (h1 : m < 16) : KBw.bInts (KBy.picked apB (some m) (some (m + 1))) = [65 + m] := by
  obtain ⟨k, rfl⟩ := Int.eq_ofNat_of_zero_le h0
  exact ap_all k (by omega)
/-- a number's letters, the first one ahead -/
def hexOf (n : Nat) : List Int := if h : n = 0 then [] else hexOf (n / 16) ++ [65 + ((n % 16 : Nat) : Int)]
decreasing_by omega
theorem hexOf_zero : hexOf 0 = [] := by unfold hexOf; simp
theorem hexOf_pos {n : Nat} (h : n ≠ 0) : hexOf n = hexOf (n / 16) ++ [65 + ((n % 16 : Nat) : Int)] := by
  rw [hexOf]; simp [h]
theorem hexOf_len : ∀ (k n : Nat), n < 16 ^ k → (hexOf n).length ≤ k
  | 0, n, h => by
    have : n = 0 := by simpa using h
    rw [this, hexOf_zero]; simp
  | k + 1, n, h => by
    by_cases hn : n = 0
    · rw [hn, hexOf_zero]; simp
    · rw [hexOf_pos hn, List.length_append]
      have := hexOf_len k (n / 16) (by rw [Nat.pow_succ] at h; omega)
      simp; omega
theorem snoc_ind {P : List Int → Prop} (h0 : P []) (hs : ∀ l x, P l → P (l ++ [x])) (l : List Int) : P l := by
  have h : ∀ r : List Int, P r.reverse := by
    intro r
    induction r with
    | nil => exact h0
    | cons x r ih => rw [List.reverse_cons]; exact hs _ _ ih
  have := h l.reverse
  rwa [List.reverse_reverse] at this
def numOf (ns : List Int) : Int := ns.foldl (fun a f => 16 * a + f) 0
theorem numOf_snoc (ns : List Int) (f : Int) : numOf (ns ++ [f]) = 16 * numOf ns + f := by simp [numOf, List.foldl_append]
theorem numOf_range : ∀ (ns : List Int), (∀ f ∈ ns, 0 ≤ f ∧ f < 16) → 0 ≤ numOf ns ∧ numOf ns < 16 ^ ns.length := by
  refine snoc_ind ?_ ?_
  · intro _; simp [numOf]
  · intro ns f ih h
    have h1 := ih fun g hg => h g (by simp [hg])
    have h2 := h f (by simp)
    rw [numOf_snoc, List.length_append, List.length_singleton]
    have e : (16 : Int) ^ (ns.length + 1) = 16 ^ ns.length * 16 := by rw [Int.pow_succ]
    rw [e]
    omega
theorem hexOf_num : ∀ (ns : List Int), (∀ f ∈ ns, 0 ≤ f ∧ f < 16) → (∀ f r, ns = f :: r → f ≠ 0) → hexOf (numOf ns).toNat = ns.map (fun f => 65 + f) ∧ (ns ≠ [] → numOf ns ≠ 0) := by
  refine snoc_ind ?_ ?_
  · intro _ _; simp [numOf, hexOf_zero]
  · intro ns f ih h hd
    have hr := numOf_range ns fun g hg => h g (by simp [hg])
    have hf := h f (by simp)
    have h0 : numOf (ns ++ [f]) ≠ 0 := by
      rw [numOf_snoc]
      cases ns with
      | nil =>
        have := hd f [] rfl
        simp only [numOf, List.foldl_nil]; omega
      | cons g r =>
        have := (ih (fun g' hg => h g' (by simp only [List.mem_append]; exact .inl hg)) (fun f' r' e => hd f' (r' ++ [f]) (by rw [e]; rfl))).2 (by simp)
        omega
    refine ⟨?_, fun _ => h0⟩
    have hp : (numOf (ns ++ [f])).toNat ≠ 0 := by
      have := (numOf_range (ns ++ [f]) h).1
      omega
    rw [hexOf_pos hp, numOf_snoc]
    have e1 : (16 * numOf ns + f).toNat / 16 = (numOf ns).toNat := by omega
    have e2 : (((16 * numOf ns + f).toNat % 16 : Nat) : Int) = f := by omega
    rw [e1, e2]
    have ih' : hexOf (numOf ns).toNat = ns.map (fun f => 65 + f) := by
      cases ns with
      | nil => simp [numOf, hexOf_zero]
      | cons g r => exact (ih (fun g' hg => h g' (by simp only [List.mem_append]; exact .inl hg)) (fun f' r' e => hd f' (r' ++ [f]) (by rw [e]; rfl))).1
    rw [ih']
    simp
theorem sign_num {sign num : Int} (hs : sign = 1 ∨ sign = -1) (h : 0 ≤ num) : (sign * num).natAbs = num.toNat := by
  rcases hs with rfl | rfl <;> omega
theorem num_small {ns : List Int} (hr : ∀ f ∈ ns, 0 ≤ f ∧ f < 16) (hz : ns.length ≤ 15) : 0 ≤ numOf ns ∧ numOf ns < 16 ^ 15 := by
  have h := numOf_range ns hr
  refine ⟨h.1, Int.lt_of_lt_of_le h.2 ?_⟩
  have : (16 : Nat) ^ ns.length ≤ 16 ^ 15 := Nat.pow_le_pow_right (by decide) hz
  have e : ((16 ^ ns.length : Nat) : Int) = (16 : Int) ^ ns.length := by simp
  rw [← e]
  omega
theorem num_letters {ns : List Int} {sign : Int} (hs : sign = 1 ∨ sign = -1) (hr : ∀ f ∈ ns, 0 ≤ f ∧ f < 16) (hh : ∀ f r, ns = f :: r → f ≠ 0) : hexOf (sign * numOf ns).natAbs = ns.map (fun f => 65 + f) := by
  rw [sign_num hs (numOf_range ns hr).1]
  exact (hexOf_num ns hr hh).1
theorem letter_in {ns : List Int} {k : Int} (hr : ∀ f ∈ ns, 0 ≤ f ∧ f < 16) (hk : k ∈ ns.map (fun f => 65 + f)) : 65 ≤ k ∧ k ≤ 80 := by
  obtain ⟨f, hf, rfl⟩ := List.mem_map.mp hk
  have := hr f hf
  omega
theorem abs_ite (n : Int) : (if n < 0 then -n else n) = (n.natAbs : Int) := by split <;> omega
theorem fmod16 (x : Int) : 0 ≤ x.fmod 16 ∧ x.fmod 16 < 16 := by
  rw [Int.fmod_eq_emod_of_nonneg _ (by decide)]; omega
theorem ap_mod (x : Int) : KBw.bInts (KBy.picked apB (some (x.fmod 16)) (some (x.fmod 16 + 1))) = [65 + x.fmod 16] := ap_pick (fmod16 x).1 (fmod16 x).2
theorem one_size {b : Array UInt8} {x : Int} (h : KBw.bInts b = [x]) : b.size = 1 := by rw [← KBw.ints_length, h]; rfl
/-- a loop's word in Int2AP -/
abbrev Inv3 (n : Int) (num : Int) (val : Array UInt8) : Prop := 0 ≤ num ∧ num ≤ n.natAbs ∧ hexOf n.natAbs = hexOf num.toNat ++ KBw.bInts val ∧ val.size ≤ 20
theorem inv3_0 (n : Int) : Inv3 n (n.natAbs : Int) #[] := ⟨by omega, by omega, by simp [KBw.bInts], by simp⟩
theorem inv3_s {n num : Int} {val pk : Array UInt8} {q r : Int} (h0 : 0 ≤ num) (h1 : num ≤ n.natAbs) (h : hexOf n.natAbs = hexOf num.toNat ++ KBw.bInts val) (hn : num ≠ 0) (hs : n.natAbs < 16 ^ 18)
    (hq : q = num.fdiv 16) (hr : r = num.fmod 16) (hp : KBw.bInts pk = [65 + r]) : Inv3 n q (pk ++ val) := by
  have e1 : num.fdiv 16 = num / 16 := by rw [Int.fdiv_eq_ediv_of_nonneg _ (by decide)]
  have e2 : num.fmod 16 = num % 16 := by rw [Int.fmod_eq_emod_of_nonneg _ (by decide)]
  rw [e1] at hq
  rw [e2] at hr
  have hb : KBw.bInts (pk ++ val) = [65 + r] ++ KBw.bInts val := KBw.ints_app hp rfl
  have hh : hexOf n.natAbs = hexOf q.toNat ++ KBw.bInts (pk ++ val) := by
    rw [h, hexOf_pos (by omega), hb]
    have e3 : num.toNat / 16 = q.toNat := by omega
    have e4 : ((num.toNat % 16 : Nat) : Int) = r := by omega
    rw [e3, e4]
    simp
  refine ⟨by omega, by omega, hh, ?_⟩
  have hl := hexOf_len 18 _ hs
  have := congrArg List.length hh
  rw [List.length_append, KBw.ints_length] at this
  omega
theorem ap_items : ∀ m : Nat, m < 16 → Txt.item (Str.ofString "ABCDEFGHIJKLMNOP") (m : Int) = St [(65 + (m : Int)).toNat] := by decide +kernel
theorem ap_item {k : Int} (h0 : 0 ≤ k) (h1 : k < 16) : Txt.item (Str.ofString "ABCDEFGHIJKLMNOP") k = St [(65 + k).toNat] := by
  obtain ⟨m, rfl⟩ := Int.eq_ofNat_of_zero_le h0
  exact ap_items m (by omega)
/-! a list made sign by sign of a bytes' ints -/
def SrcB (prog : Program) (w : World) (A : Around) (h₀ : Heap) (L : Addr) (m : Str → Option Value) (env : Env) (elt : Expr) (x : Str) (scope : Scope) (cl : List (Str × Addr)) (Fin : Shared → List Value → List (Addr × Obj) → Prop) (xv : Value) (s₁ : Shared) : Prop :=
  ∃ b t news, xv = .bytes b t ∧ A.handled = none ∧ Fr h₀ L s₁.heap m ∧ News h₀ L s₁.heap news ∧ b.size ≤ sizeLine ∧
    ∀ s₂ : Shared, (∃ h, s₂ = { s₁ with heap := h }) → LCg.CompRest prog w A h₀ L m env elt x scope cl s₂ (fun _ => True) (fun i v => ∃ c u, b[i]? = some c ∧ v = .int (c.toNat : Int) u) (Fin s₂) b.size 0 [] news
section
variable {prog : Program} {w : World} {A : Around} {E : Value → Shared → Prop} {s : Shared} {h₀ : Heap} {L : Addr} {m : Str → Option Value} {env : Env}
theorem ListComp_B {elt iter : Expr} {x : Str} {px : Pos} {scope : Scope} {cl : List (Str × Addr)} {pos : Pos} {Q : Value → Shared → Prop} (_F₀ : Fr h₀ L s.heap m)
    (hclos : closureFor scope env = pure cl) (hcell : ∀ y ∈ scope.names, y.2 ≠ .cell) (hkind : scope.kind = .function)
    (hnames : ∀ y ∈ scope.names, y.2 = .local → scope.names.lookup y.1 = some .local) (hx : scope.names.lookup x = some .local)
    (h : wpAny (model prog w) A (eval iter env) (SrcB prog w A h₀ L m env elt x scope cl (fun s₂ => LCg.FinE h₀ L m s₂ Q)) E s)
    (hs : ∀ x, foldedSetIterable iter env x = pure x := by intro _; rfl) :
    wpAny (model prog w) A (eval (.ListComp elt [⟨.Name x px, iter, [], 0⟩] scope pos) env) Q E s := by
  rw [eval_ListComp]
  refine wpAny_comprehension_free (use := none) rfl hs hclos hkind hnames (wpAny_mono h (fun xv s₁ h₁ => ?_) fun _ _ e => e)
  obtain ⟨b, t, news, rfl, hh, F, N, hsz, R⟩ := h₁
  refine KBw.pyIter_bytes ?_
  refine LCg.block_U (S := fun _ => True) (KBw.walks hh s₁.heap.objs.size b t) hsz (fun i h st => by obtain ⟨o, e, _⟩ := st; exact ⟨o, e⟩) (fun i h h' o nw st e e' _ _ _ => by obtain ⟨o', q, r⟩ := st; rw [e] at q; cases q; exact ⟨o, e', r⟩) hcell hkind hx ⟨_, Heap.get?_push_size _ rfl, rfl, rfl⟩ (fun b hb => ?_)
    (F.keeps fun _ _ e => Heap.get?_push_of_some _ e) (N.grown fun _ _ e => Heap.get?_push_of_some _ e) (Nat.ne_of_lt F.ns.lt) (next_is_new F) (fun p hp => Nat.ne_of_lt (Heap.lt_size (N p hp).1)) trivial (R _ ⟨_, rfl⟩) ?_
  · rw [List.mem_singleton.mp hb]
    show s₁.heap.objs.size < (s₁.heap.push _).objs.size
    rw [Heap.size_push]; exact Nat.lt_succ_self _
  · intro D C h tk m' ys news' F' N' o1 hn hC₀ hD₀ hCL hDL hCD offC fin
    refine ⟨m', hn, fun h'' hs'' => fin D h'' tk (F'.change hs'' hCL hC₀) (fun p hp => ?_) o1⟩
    refine ⟨hs''.extBut _ _ ?_ (N' p hp).1, (N' p hp).2⟩
    rcases List.mem_cons.mp hp with rfl | hp
    · exact Ne.symm hCD
    · exact offC p hp
/-- the source is at hand: each int's element is a text -/
theorem srcB_texts {elt : Expr} {x : Str} {scope : Scope} {cl : List (Str × Addr)} {Q : Value → Shared → Prop} {b : Array UInt8} {t : Tok} {news : List (Addr × Obj)} {s₁ : Shared} (g : Int → Str) (ks : List Int)
    (hh : A.handled = none) (F : Fr h₀ L s₁.heap m) (N : News h₀ L s₁.heap news) (hk : KBw.bInts b = ks) (hz : ks.length ≤ 1000)
    (turn : ∀ k t I oI C oC D m₂ ys h tk (E' : Value → Shared → Prop), k ∈ ks → LCg.NsObj oC m₂ → m₂ x = some (.int k t) → Fr h₀ L h m → News h₀ L h ((I, oI) :: (C, oC) :: (D, LCg.lst ys) :: news) → LCg.Off3 I C D news → ((@Ne Nat I C) ∧ (@Ne Nat I D) ∧ (@Ne Nat C D)) → KPfMark →
      wpAny (model prog w) A (eval elt (compEnvC scope cl C env)) (LCg.CompEnd h₀ L m { s₁ with heap := h, toks := tk } I oI C oC D (LCg.lst ys) (fun _ => True) (fun y news' => KCtEl news (g k) y news')) E' { s₁ with heap := h, toks := tk })
    (fin : ∀ D ys h tk, StrsAre ys (ks.map g) → Fr h₀ L h m → News h₀ L h ((D, LCg.lst ys) :: news) → Q (.ref D) { s₁ with heap := h, toks := tk }) :
    SrcB prog w A h₀ L m env elt x scope cl (fun s₂ => LCg.FinE h₀ L m s₂ Q) (.bytes b t) s₁ := by
  refine ⟨b, t, news, rfl, hh, F, N, by rw [← KBw.ints_length b, hk, sizeLine_eq]; omega, ?_⟩
  rintro s₂ ⟨hp, rfl⟩
  subst hk
  refine kct_rest (ks := KBw.bInts b) g (KBw.ints_length b) (fun i v hi hv => ?_) (fun k t I oI C oC D m₂ ys h tk E' hk' hC hx F' N' off ne mk => turn k t I oI C oC D m₂ ys h tk E' hk' hC hx F' N' off ne mk) ?_
  · obtain ⟨c, u, e, rfl⟩ := hv
    exact ⟨_, u, KBw.ints_get e, rfl⟩
  · intro ys hc _ D h tk F' N' _
    exact fin D ys h tk (CarriedAll.strsOf hc) F' N'
theorem join_St (ks : List Int) : Txt.join (Str.ofString "") (ks.map fun k => St [k.toNat]) = St (ks.map Int.toNat) := by
  show Builtin.Str.glued (Str.ofString "") _ = _
  rw [StrLaws.glued_eq_join]
  have e : (ks.map fun k => St [k.toNat]) = (ks.map Int.toNat).map fun k => (⟨#[k]⟩ : Str) := by rw [List.map_map]; rfl
  rw [e]
  exact join_ones _
theorem join_up (ns : List Int) : Txt.join (Str.ofString "") (ns.map fun a => St [(65 + a).toNat]) = St (ns.map fun f => (65 + f).toNat) := by
  have := join_St (ns.map fun f => 65 + f)
  rw [List.map_map, List.map_map] at this
  exact this
theorem w_join {D : Addr} {ys : List Value} {ks : List Int} {t : Tok} {Q : Value → Shared → Prop} (hl : s.heap.IsList D ys.toArray) (hS : StrsAre ys (ks.map fun k => St [k.toNat])) (hz : ks.length ≤ 1000)
    (h : ∀ t' k, Q (.str (St (ks.map Int.toNat)) t') { s with toks := k }) : wpAny (model prog w) A (call (.builtin "str.join") [.str (Str.ofString "") t, .ref D]) Q E s := by
  refine KT.join_1 (l := ks) (g := fun k => St [k.toNat]) hl (by have := hS.carried; rwa [List.map_map] at this) (fun _ _ => rfl) (by omega) fun t' k _ => ?_
  rw [join_St]
  exact h t' k
end
theorem bits_all : ∀ m : Nat, m < 200 → Builtin.Int.intBits (m : Int) ≤ 64 := by decide +kernel
theorem small_bits {a : Int} (h0 : 0 ≤ a) (h1 : a < 200) : Builtin.Int.intBits a ≤ 64 := by
  obtain ⟨m, rfl⟩ := Int.eq_ofNat_of_zero_le h0
  exact bits_all m (by omega)
theorem strOk_St {l : List Nat} (h : ∀ c ∈ l, c < 128) : PyData.strOk (St l) = true := by
  unfold PyData.strOk
  simp only [St, List.all_toArray, List.all_eq_true]
  intro c hc
  have := h c hc
  simp; omega
theorem shaped_two {a b : List Nat} (ha : ∀ c ∈ a, c < 128) (hb : ∀ c ∈ b, c < 128) : SeqAt.shaped (.list [.str (St a), .str (St b)]) = true := by
  unfold SeqAt.shaped
  simp [PyData.canLay0, PyData.canLayAll0, strOk_St ha, strOk_St hb, PyData.depth, PyData.depthAll]
section
variable {prog : Program} {w : World} {A : Around} {E : Value → Shared → Prop} {s : Shared} {Q : Value → Shared → Prop}
theorem w_ne_texts {l₁ l₂ : Addr} {a b : List Nat} {t₁ t₂ t₃ t₄ : Tok} {n₁ n₂ : Nat} (h₁ : s.heap.get? l₁ = some (listOf #[.str (St a) t₁, .str (St b) t₂] n₁)) (h₂ : s.heap.get? l₂ = some (listOf #[.str (St a) t₃, .str (St b) t₄] n₂))
    (ha : ∀ c ∈ a, c < 128) (hb : ∀ c ∈ b, c < 128) (hu : A.units + 64 < cLine) (h : Q (.bool false) s) : wpAny (model prog w) A (compareOp .NotEq (.ref l₁) (.ref l₂)) Q E s := by
  refine ne_dataH (reads_list_at h₁ rfl rfl (ReadsAll.cons (Reads.str _ _) (ReadsAll.cons (Reads.str _ _) ReadsAll.nil))) (reads_list_at h₂ rfl rfl (ReadsAll.cons (Reads.str _ _) (ReadsAll.cons (Reads.str _ _) ReadsAll.nil))) (shaped_two ha hb) (shaped_two ha hb) hu ?_
  simp only [PyData.eqv, PyData.eqvAll, beq_self_eq_true, Bool.and_true, Bool.not_true]
  exact h
theorem w_ne_textsE {l₁ l₂ : Addr} {a b : List Nat} {x y : Str} {t₁ t₂ t₃ t₄ : Tok} {n₁ n₂ : Nat} (h₁ : s.heap.get? l₁ = some (listOf #[.str (St a) t₁, .str (St b) t₂] n₁)) (h₂ : s.heap.get? l₂ = some (listOf #[.str x t₃, .str y t₄] n₂))
    (ex : x = St a) (ey : y = St b) (ha : ∀ c ∈ a, c < 128) (hb : ∀ c ∈ b, c < 128) (hu : A.units + 64 < cLine) (h : Q (.bool false) s) : wpAny (model prog w) A (compareOp .NotEq (.ref l₁) (.ref l₂)) Q E s := by
  subst ex ey
  exact w_ne_texts h₁ h₂ ha hb hu h
theorem w_ne_ints {l₁ l₂ : Addr} {xs ys : List Value} {ns : List Int} (h₁ : s.heap.IsList l₁ xs.toArray) (h₂ : s.heap.IsList l₂ ys.toArray) (hi : IntsAre xs ns) (hj : IntsAre ys ns) (hu : A.units + 64 < cLine) (h : Q (.bool false) s) : wpAny (model prog w) A (compareOp .NotEq (.ref l₁) (.ref l₂)) Q E s :=
  ke_ne_ints h₁ h₂ hi hj hu (by rw [decide_eq_true rfl]; exact h)
theorem w_iadd {x y : Str} {a b : List Nat} {t u : Tok} (hx : x = St a) (hy : y = St b) (hz : a.length + b.length ≤ 1000) (h : ∀ t' k, Q (.str (St (a ++ b)) t') { s with toks := k }) : wpAny (model prog w) A (inplaceOp .Add (.str x t) (.str y u)) Q E s := by
  subst hx hy
  refine PyProof.Rows.iadd_str (fun t' k => ?_) (by rw [St_len, St_len, sizeLine_eq]; omega)
  rw [St_app]
  exact h t' k
theorem w_llen {l : Addr} {vs : List Value} {ns : List Int} {N : Nat} (hl : s.heap.IsList l vs.toArray) (hi : IntsAre vs ns) (hn : ns.length = N) (hz : N ≤ 1000) (h : ∀ k, Q (.int (N : Int) k) { s with toks := k + 1 }) : wpAny (model prog w) A (call (.builtin "len") [.ref l]) Q E s := by
  have e : vs.toArray.size = N := by rw [List.size_toArray, hi.length, hn]
  refine len_list hl (by rw [e]; omega) ?_
  rw [e]
  exact h _
end
theorem up_small {ns : List Int} (hr : ∀ f ∈ ns, 0 ≤ f ∧ f < 16) : ∀ c ∈ ns.map (fun f => (65 + f).toNat), c < 128 := by
  intro c hc
  obtain ⟨f, hf, rfl⟩ := List.mem_map.mp hc
  have := hr f hf
  omega
abbrev arnd (dp un : Nat) (gd : Option (List Code)) (outer : List Env) : Around := { handled := none, depth := dp, frames := some outer, guards := gd, units := un }

def Keeps (h h' : Heap) : Prop := ∀ b o, h.get? b = some o → h'.get? b = some o

/-- a call's end: what stood stands, and R is told of the answer -/
def Done (s : Shared) (R : Value → Heap → Prop) (v : Value) (s' : Shared) : Prop :=
  ∃ (L' : Addr) (m' : Str → Option Value) (h' : Heap) (tk : Nat), s' = { s with heap := h', toks := tk } ∧ Fr s.heap L' h' m' ∧ R v h'

/-- the contract of a def: all that stood stays, and the answer is R's -/
def Con (prog : Program) (w : World) (K : Frag) (p : Program) (loose : List Str) (mean : ExcName → Option Value) (mg mb : Str → Option Value)
    (f : Addr) (k : Nat) (s : Shared) (vs : List Value) (R : Value → Heap → Prop) : Prop :=
  ∀ (dp un : Nat) (gd : Option (List Code)) (outer : List Env) (base : Heap) (Q E : Value → Shared → Prop),
    Below (arnd dp un gd outer) base outer s.heap → K.In s.heap → Top p loose mean mg mb s.heap → dp + k < recursionLimit → un + 8 * k < cLine →
    (∀ v h' tk', Keeps s.heap h' → R v h' → Q v { s with heap := h', toks := tk' }) →
    wpAny (model prog w) (arnd dp un gd outer) (call (.ref f) vs) Q E s

section
variable {prog : Program} {w : World} {K : Frag} {p : Program} {loose : List Str} {mean : ExcName → Option Value} {mg mb : Str → Option Value} {f : Addr} {k : Nat} {s : Shared} {vs : List Value} {R : Value → Heap → Prop}

theorem con_enter {name qual : Str} {params : Arguments} {body : List Stmt} {scope : Scope} {dV kV doc pm cdv ct oc : Value} {an od : Option Addr} {osl : Array (Option Value)} {binds : List (Str × Value)}
    (hk0 : 0 < k)
    (ho : K.lookup f = some ⟨oc, od, .func (fnOf name qual params body scope dV kV doc pm an cdv ct), osl⟩) (hcd : codeIn K cdv qual = true)
    (hbind : BindsTo s (fnOf name qual params body scope dV kV doc pm an cdv ct) ⟨vs, []⟩ binds) (hloc : ∀ y ∈ binds, scope.names.lookup y.1 = some .local)
    (h : ∀ (dp un : Nat) (gd : Option (List Code)) (outer : List Env) (base : Heap) (L : Addr) (h₁ : Heap) (R' : Result → Shared → Prop),
      Fr s.heap L h₁ (fun y => binds.reverse.lookup y) → News s.heap L h₁ [] → Below (arnd dp un gd outer) base outer s.heap → K.In s.heap → Top p loose mean mg mb s.heap → dp + k < recursionLimit → un + 8 * k < cLine →
      wpAny (model prog w) ((arnd dp un gd outer).deeper (envOf qual scope L f cdv)) (execs body (envOf qual scope L f cdv))
        (fun fl s' => Done s R (match fl with | .ret v => v | _ => .none) s')
        (fun e s' => wpAny (model prog w) ((arnd dp un gd outer).deeper (envOf qual scope L f cdv)) (leaving (envOf qual scope L f cdv) e) (fun _ s'' => R' (.error e) s'') (fun e' s'' => R' (.error e') s'') s')
        { s with heap := h₁, toks := s.toks + binds.length })
    (hco : scope.isCoroutine = false) (hgen : scope.isGenerator = false) (hk : scope.kind = .function)
    (hcell : ∀ x ∈ scope.names, x.2 ≠ .cell) : Con prog w K p loose mean mg mb f k s vs R := by
  intro dp un gd outer base Q E B X T hd hu hret
  refine wpAny_call ?_
  refine codeAny_call_def (fd := fnOf name qual params body scope dV kV doc pm an cdv ct) (body := body) (binds := binds) (by show dp < recursionLimit; omega) (X _ _ ho) rfl T.nolimit (codeRec_of X hcd) rfl hbind hcell hloc (fun h₁ hns hk₁ => ?_) hco hgen hk
  refine wpAny_mono (h dp un gd outer base s.heap.objs.size h₁ (fun r s' => match r with | .ok (.ret v) => Q v s' | .ok _ => False | .error e => E e s') ⟨hns, hk₁, Nat.le_refl _⟩ News.nil B X T hd hu) (fun fl s' hl => ?_) fun _ _ y => y
  obtain ⟨L', m', h', tk, rfl, F', r⟩ := hl
  exact hret _ h' tk F'.keep r

theorem con_use {dp un : Nat} {gd : Option (List Code)} {env : Env} {outer : List Env} {A₀ : Around} {base h₀ : Heap} {L : Addr} {m : Str → Option Value} {news : List (Addr × Obj)} {Q E : Value → Shared → Prop}
    (C : Con prog w K p loose mean mg mb f k s vs R)
    (B : Below A₀ base outer h₀) (F : Fr h₀ L s.heap m) (X : K.In h₀) (N : News h₀ L s.heap news) (T : Top p loose mean mg mb h₀)
    (hf : env.frame = some L) (hke : env.scope.kind = .function) (hd : dp + k < recursionLimit) (hu : un + 8 * k < cLine)
    (h : ∀ v h' tk', R v h' → Keeps s.heap h' → Fr h₀ L h' m → News h₀ L h' news → Q v { s with heap := h', toks := tk' }) :
    wpAny (model prog w) (arnd dp un gd (env :: outer)) (call (.ref f) vs) Q E s := by
  have B₁ := pushX B F hf hke
  refine C dp un gd (env :: outer) base Q E ⟨rfl, B₁.stays, B₁.frames⟩ (X.keeps F.keep) (T.keeps F.keep) hd hu fun v h' tk' hk r => h v h' tk' r hk ?_ ?_
  · obtain ⟨oL, es, ep, hL, hLd, hLk, hLf⟩ := F.ns
    exact ⟨⟨oL, es, ep, hk _ _ hL, hLd, hLk, hLf⟩, fun b o e => hk _ _ (F.keep b o e), F.above⟩
  · exact fun q hq => ⟨hk _ _ (N q hq).1, (N q hq).2⟩

theorem con_int {x y : Int} (C : Con prog w K p loose mean mg mb f k s vs (fun v _ => ∃ t, v = .int x t)) (e : x = y) : Con prog w K p loose mean mg mb f k s vs (fun v _ => ∃ t, v = .int y t) := e ▸ C
theorem con_list {dp un : Nat} {gd : Option (List Code)} {env : Env} {outer : List Env} {A₀ : Around} {base h₀ : Heap} {L : Addr} {m : Str → Option Value} {news : List (Addr × Obj)} {Q E : Value → Shared → Prop} {ns : List Int}
    (C : Con prog w K p loose mean mg mb f k s vs (fun r h' => ∃ D vs c, r = .ref D ∧ s.heap.get? D = none ∧ h'.get? D = some (listOf vs.toArray c) ∧ IntsAre vs ns))
    (B : Below A₀ base outer h₀) (F : Fr h₀ L s.heap m) (X : K.In h₀) (N : News h₀ L s.heap news) (T : Top p loose mean mg mb h₀)
    (hf : env.frame = some L) (hke : env.scope.kind = .function) (hd : dp + k < recursionLimit) (hu : un + 8 * k < cLine)
    (h : ∀ D vs c h' tk', IntsAre vs ns → (∀ p ∈ news, p.1 ≠ D) → Fr h₀ L h' m → News h₀ L h' ((D, listOf vs.toArray c) :: news) → Q (.ref D) { s with heap := h', toks := tk' }) :
    wpAny (model prog w) (arnd dp un gd (env :: outer)) (call (.ref f) vs) Q E s := by
  refine con_use C B F X N T hf hke hd hu ?_
  rintro v h' tk' ⟨D, vs', c, rfl, hD, hg, hi⟩ hk F' N'
  obtain ⟨oL, es, ep, hL, _⟩ := F.ns
  refine h D vs' c h' tk' hi (fun q hq e => ?_) F' ?_
  · have := (N q hq).1
    rw [e, hD] at this; cases this
  · intro q hq
    rcases List.mem_cons.mp hq with rfl | hq
    · refine ⟨hg, fun e => ?_, ?_⟩
      · have e' : D = L := e
        rw [e', hL] at hD; cases hD
      · cases e : h₀.get? D with
        | none => rfl
        | some o => rw [F.keep _ _ e] at hD; cases hD
    · exact N' q hq
theorem done_intro {s : Shared} {R : Value → Heap → Prop} {v : Value} {h' : Heap} {tk : Nat} {L' : Addr} {m' : Str → Option Value} (F : Fr s.heap L' h' m') (r : R v h') : Done s R v { s with heap := h', toks := tk } :=
  ⟨L', m', h', tk, rfl, F, r⟩
theorem done_int {s : Shared} {x y : Int} {t : Tok} {h' : Heap} {tk : Nat} {L' : Addr} {m' : Str → Option Value} (F : Fr s.heap L' h' m') (e : x = y) : Done s (fun v _ => ∃ t, v = .int y t) (.int x t) { s with heap := h', toks := tk } :=
  ⟨L', m', h', tk, rfl, F, t, by rw [e]⟩
end



/-- a place where the walk halts -/
def Stop (P : Prop) : Prop := P
theorem stop {P : Prop} (h : Stop P) : P := h
theorem Stop.go {P : Prop} (h : P) : Stop P := h
theorem fr_eq {h₀ h : Heap} {L : Addr} {m m' : Str → Option Value} (F : Fr h₀ L h m) (e : ∀ z, m' z = m z) : Fr h₀ L h m' := by
  have : m' = m := funext e
  rw [this]; exact F
/-- behind a loop: one name bears an int -/
def After (h₀ : Heap) (L : Addr) (m : Str → Option Value) (news : List (Addr × Obj)) (s : Shared) (x : Str) (n : Int) (f : Flow) (s' : Shared) : Prop :=
  f = .next ∧ ∃ t h' tk', s' = { s with heap := h', toks := tk' } ∧ Fr h₀ L h' (fun y => if y = x then some (.int n t) else m y) ∧ News h₀ L h' news
theorem cut_int {M : Model} {A : Around} {E : Value → Shared → Prop} {tree : Sem Flow} {Q : Flow → Shared → Prop} {s : Shared} {h₀ : Heap} {L : Addr} {m : Str → Option Value} {news : List (Addr × Obj)} (x : Str) (n : Int)
    (F : Fr h₀ L s.heap m) (N : News h₀ L s.heap news) (walk : wpAny M A tree (After h₀ L m news s x n) E s)
    (h : ∀ t h' tk', Fr h₀ L h' (fun y => if y = x then some (.int n t) else m y) → News h₀ L h' news → Q .next { s with heap := h', toks := tk' }) : wpAny M A tree Q E s := by
  refine wpAny_mono walk (fun f s' hq => ?_) fun _ _ x => x
  obtain ⟨rfl, t, h', tk', rfl, F', N'⟩ := hq
  exact h t h' tk' F' N'
theorem after_intro {h₀ : Heap} {L : Addr} {m m' : Str → Option Value} {news news' : List (Addr × Obj)} {s : Shared} {x : Str} {n : Int} {h' : Heap} {tk' : Nat} (t : Tok) (F : Fr h₀ L h' m') (N : News h₀ L h' news') (hn : ∀ p ∈ news, p ∈ news') (e : ∀ y, (if y = x then some (Value.int n t) else m y) = m' y) :
    After h₀ L m news s x n .next { s with heap := h', toks := tk' } := ⟨rfl, t, h', tk', rfl, fr_eq F e, fun p hp => N p (hn p hp)⟩
theorem after_one {h₀ : Heap} {L : Addr} {m u : Str → Option Value} {news : List (Addr × Obj)} {s : Shared} {x : Str} {n p : Int} {t : Tok} {h' : Heap} {tk' : Nat}
    (F : Fr h₀ L h' (fun z => if z = x then some (.int p t) else if ([] : List Str).contains z = true then u z else m z)) (N : News h₀ L h' news) (e : n = p) :
    After h₀ L m news s x n .next { s with heap := h', toks := tk' } :=
  ⟨rfl, t, h', tk', rfl, fr_eq F (fun z => by rw [e]; by_cases hz : z = x <;> simp [hz]), N⟩
/-- behind a store: one name bears a value -/
def AfterV (h₀ : Heap) (L : Addr) (m : Str → Option Value) (news : List (Addr × Obj)) (s : Shared) (x : Str) (y : Tok → Value) (f : Flow) (s' : Shared) : Prop :=
  f = .next ∧ ∃ t h' tk', s' = { s with heap := h', toks := tk' } ∧ Fr h₀ L h' (fun z => if z = x then some (y t) else m z) ∧ News h₀ L h' news
theorem cut_val {M : Model} {A : Around} {E : Value → Shared → Prop} {tree : Sem Flow} {Q : Flow → Shared → Prop} {s : Shared} {h₀ : Heap} {L : Addr} {m : Str → Option Value} {news : List (Addr × Obj)} (x : Str) (y : Tok → Value)
    (_F : Fr h₀ L s.heap m) (_N : News h₀ L s.heap news) (walk : wpAny M A tree (AfterV h₀ L m news s x y) E s)
    (h : ∀ t h' tk', Fr h₀ L h' (fun z => if z = x then some (y t) else m z) → News h₀ L h' news → Q .next { s with heap := h', toks := tk' }) : wpAny M A tree Q E s := by
  refine wpAny_mono walk (fun f s' hq => ?_) fun _ _ x => x
  obtain ⟨rfl, t, h', tk', rfl, F', N'⟩ := hq
  exact h t h' tk' F' N'
theorem afterV_one {h₀ : Heap} {L : Addr} {m : Str → Option Value} {news : List (Addr × Obj)} {s : Shared} {x : Str} {y : Tok → Value} {v : Value} (t : Tok) {h' : Heap} {tk' : Nat}
    (F : Fr h₀ L h' (fun z => if z = x then some v else m z)) (N : News h₀ L h' news) (e : y t = v) :
    AfterV h₀ L m news s x y .next { s with heap := h', toks := tk' } :=
  ⟨rfl, t, h', tk', rfl, by rw [e]; exact F, N⟩
theorem afterV_str {h₀ : Heap} {L : Addr} {m : Str → Option Value} {news : List (Addr × Obj)} {s : Shared} {x : Str} {l l' : List Nat} {t : Tok} {h' : Heap} {tk' : Nat}
    (F : Fr h₀ L h' (fun z => if z = x then some (.str (St l') t) else m z)) (N : News h₀ L h' news) (e : l = l') :
    AfterV h₀ L m news s x (fun t => .str (St l) t) .next { s with heap := h', toks := tk' } :=
  afterV_one t F N (by rw [e])
/-- behind a statement: two names bear values -/
def After2 (h₀ : Heap) (L : Addr) (m : Str → Option Value) (news : List (Addr × Obj)) (s : Shared) (x₁ x₂ : Str) (y₁ y₂ : Tok → Value) (f : Flow) (s' : Shared) : Prop :=
  f = .next ∧ ∃ t₁ t₂ h' tk', s' = { s with heap := h', toks := tk' } ∧ Fr h₀ L h' (fun z => if z = x₁ then some (y₁ t₁) else if z = x₂ then some (y₂ t₂) else m z) ∧ News h₀ L h' news
theorem cut_two {M : Model} {A : Around} {E : Value → Shared → Prop} {tree : Sem Flow} {Q : Flow → Shared → Prop} {s : Shared} {h₀ : Heap} {L : Addr} {m : Str → Option Value} {news : List (Addr × Obj)} (x₁ x₂ : Str) (y₁ y₂ : Tok → Value)
    (_F : Fr h₀ L s.heap m) (_N : News h₀ L s.heap news) (walk : wpAny M A tree (After2 h₀ L m news s x₁ x₂ y₁ y₂) E s)
    (h : ∀ t₁ t₂ h' tk', Fr h₀ L h' (fun z => if z = x₁ then some (y₁ t₁) else if z = x₂ then some (y₂ t₂) else m z) → News h₀ L h' news → Q .next { s with heap := h', toks := tk' }) : wpAny M A tree Q E s := by
  refine wpAny_mono walk (fun f s' hq => ?_) fun _ _ x => x
  obtain ⟨rfl, t₁, t₂, h', tk', rfl, F', N'⟩ := hq
  exact h t₁ t₂ h' tk' F' N'
theorem after2_same {h₀ : Heap} {L : Addr} {m : Str → Option Value} {news : List (Addr × Obj)} {s : Shared} {x₁ x₂ : Str} {y₁ y₂ : Tok → Value} (t₁ t₂ : Tok) {h' : Heap} {tk' : Nat}
    (F : Fr h₀ L h' m) (N : News h₀ L h' news) (e₁ : m x₁ = some (y₁ t₁)) (e₂ : m x₂ = some (y₂ t₂)) : After2 h₀ L m news s x₁ x₂ y₁ y₂ .next { s with heap := h', toks := tk' } :=
  ⟨rfl, t₁, t₂, h', tk', rfl, fr_eq F (fun z => by
    by_cases h1 : z = x₁
    · rw [if_pos h1, h1, e₁]
    · rw [if_neg h1]
      by_cases h2 : z = x₂
      · rw [if_pos h2, h2, e₂]
      · rw [if_neg h2]), N⟩
theorem after2_set {h₀ : Heap} {L : Addr} {m : Str → Option Value} {news news' : List (Addr × Obj)} {s : Shared} {x₁ x₂ : Str} {y₁ y₂ : Tok → Value} {v₁ v₂ : Value} (t₁ t₂ : Tok) {h' : Heap} {tk' : Nat}
    (F : Fr h₀ L h' (fun z => if z = x₁ then some v₁ else if z = x₂ then some v₂ else m z)) (N : News h₀ L h' news') (hn : ∀ p ∈ news, p ∈ news') (e₁ : y₁ t₁ = v₁) (e₂ : y₂ t₂ = v₂) : After2 h₀ L m news s x₁ x₂ y₁ y₂ .next { s with heap := h', toks := tk' } :=
  ⟨rfl, t₁, t₂, h', tk', rfl, by rw [e₁, e₂]; exact F, fun p hp => N p (hn p hp)⟩
/-- behind a store: one name bears an int of which P is told -/
def AfterX (h₀ : Heap) (L : Addr) (m : Str → Option Value) (news : List (Addr × Obj)) (s : Shared) (x : Str) (P : Int → Prop) (f : Flow) (s' : Shared) : Prop :=
  f = .next ∧ ∃ z t h' tk', P z ∧ s' = { s with heap := h', toks := tk' } ∧ Fr h₀ L h' (fun y => if y = x then some (.int z t) else m y) ∧ News h₀ L h' news
theorem cut_ex {M : Model} {A : Around} {E : Value → Shared → Prop} {tree : Sem Flow} {Q : Flow → Shared → Prop} {s : Shared} {h₀ : Heap} {L : Addr} {m : Str → Option Value} {news : List (Addr × Obj)} (x : Str) (P : Int → Prop)
    (_F : Fr h₀ L s.heap m) (_N : News h₀ L s.heap news) (walk : wpAny M A tree (AfterX h₀ L m news s x P) E s)
    (h : ∀ z t h' tk', P z → Fr h₀ L h' (fun y => if y = x then some (.int z t) else m y) → News h₀ L h' news → Q .next { s with heap := h', toks := tk' }) : wpAny M A tree Q E s := by
  refine wpAny_mono walk (fun f s' hq => ?_) fun _ _ x => x
  obtain ⟨rfl, z, t, h', tk', hz, rfl, F', N'⟩ := hq
  exact h z t h' tk' hz F' N'
theorem afterX_one {h₀ : Heap} {L : Addr} {m : Str → Option Value} {news news' : List (Addr × Obj)} {s : Shared} {x : Str} {P : Int → Prop} {z : Int} {t : Tok} {h' : Heap} {tk' : Nat}
    (F : Fr h₀ L h' (fun y => if y = x then some (.int z t) else m y)) (N : News h₀ L h' news') (hn : ∀ p ∈ news, p ∈ news') (hz : P z) : AfterX h₀ L m news s x P .next { s with heap := h', toks := tk' } :=
  ⟨rfl, z, t, h', tk', hz, rfl, F, fun p hp => N p (hn p hp)⟩
structure MarkC : Prop where
  mark :: (one : True)
theorem markC : MarkC := ⟨trivial⟩
structure MarkB : Prop where
  mark :: (one : True)
theorem markB : MarkB := ⟨trivial⟩
structure MarkA : Prop where
  mark :: (one : True)
theorem markA : MarkA := ⟨trivial⟩
section
variable {prog : Program} {w : World} {K : Frag} {p : Program} {loose : List Str} {mean : ExcName → Option Value} {mg mb : Str → Option Value} {f : Addr} {k : Nat} {s : Shared} {vs : List Value} {R : Value → Heap → Prop}
/-- a def some of whose names are captured by a comprehension -/
theorem con_enterC {name qual : Str} {params : Arguments} {body : List Stmt} {scope : Scope} {dV kV doc pm cdv ct oc : Value} {an od : Option Addr} {osl : Array (Option Value)} {binds : List (Str × Value)}
    (hk0 : 0 < k)
    (ho : K.lookup f = some ⟨oc, od, .func (fnOf name qual params body scope dV kV doc pm an cdv ct), osl⟩) (hcd : codeIn K cdv qual = true)
    (hbind : BindsTo s (fnOf name qual params body scope dV kV doc pm an cdv ct) ⟨vs, []⟩ binds) (hkind : (binds.all fun y => scope.names.lookup y.1 == some .local || scope.names.lookup y.1 == some .cell) = true)
    (hnd : ((cellsFrom 0 scope.names []).map (·.1)).Nodup)
    (h : ∀ (dp un : Nat) (gd : Option (List Code)) (outer : List Env) (base : Heap) (L : Addr) (h₁ : Heap) (tk : Nat) (cells : List (Addr × Obj)) (R' : Result → Shared → Prop),
      Fr s.heap L h₁ (bindL (envOfC qual scope L f cdv).kindOf binds fun _ => none) → News s.heap L h₁ cells →
      CellsAre (bindC (envOfC qual scope L f cdv).kindOf binds fun _ => none) (cellsFrom (L + 1) scope.names []) cells → Below (arnd dp un gd outer) base outer s.heap → K.In s.heap → Top p loose mean mg mb s.heap → dp + k < recursionLimit → un + 8 * k < cLine →
      wpAny (model prog w) ((arnd dp un gd outer).deeper (envOfC qual scope L f cdv)) (execs body (envOfC qual scope L f cdv))
        (fun fl s' => Done s R (match fl with | .ret v => v | _ => .none) s')
        (fun e s' => wpAny (model prog w) ((arnd dp un gd outer).deeper (envOfC qual scope L f cdv)) (leaving (envOfC qual scope L f cdv) e) (fun _ s'' => R' (.error e) s'') (fun e' s'' => R' (.error e') s'') s')
        { s with heap := h₁, toks := tk })
    (hco : scope.isCoroutine = false) (hgen : scope.isGenerator = false) (hk : scope.kind = .function) : Con prog w K p loose mean mg mb f k s vs R := by
  intro dp un gd outer base Q E B X T hd hu hret
  refine wpAny_call ?_
  refine codeAny_call_function (fd := fnOf name qual params body scope dV kV doc pm an cdv ct) (by show dp < recursionLimit; omega) (X _ _ ho) rfl hco hgen rfl (codeRec_of X hcd) (hbind _ _ _ _ ?_)
  refine wpAny_newFunctionEnv_cells hk (kindsX hkind _) fun env' he s' x => ?_
  subst he
  refine ⟨T.nolimit.keeps x.toInCall.keep, codeAny_func ?_⟩
  obtain ⟨h₁, tk, rfl, _⟩ := x.done
  have hk₁ := x.toInCall.keep
  obtain ⟨cells, NC, Y⟩ := Cl.news (h₀ := s.heap) (Nat.le_refl _) fun n c hm => ⟨x.cell n c (lookup_of_mem_nodup (cellsFrom_names scope.names 0 (s.heap.objs.size + 1) [] [] rfl ▸ hnd) hm), x.above n c hm⟩
  refine wpAny_mono (h dp un gd outer base s.heap.objs.size h₁ tk cells (fun r s' => match r with | .ok (.ret v) => Q v s' | .ok _ => False | .error e => E e s') ⟨x.toInCall.ns, hk₁, Nat.le_refl _⟩ NC Y B X T hd hu) (fun fl s' hl => ?_) fun _ _ y => y
  obtain ⟨L', m', h', tk', rfl, F', r⟩ := hl
  exact hret _ h' tk' F'.keep r
end
/-- behind a store into a captured name -/
def AfterC2 (h₀ : Heap) (L : Addr) (m : Str → Option Value) (s : Shared) (q : Addr × Obj) (a : Addr) (P : Int → Prop) (f : Flow) (s' : Shared) : Prop :=
  f = .next ∧ ∃ z t o h' tk', P z ∧ o.data = Data.cell (some (.int z t)) ∧ s' = { s with heap := h', toks := tk' } ∧ Fr h₀ L h' m ∧ News h₀ L h' [q, (a, o)]
theorem cut_cell2 {M : Model} {A : Around} {E : Value → Shared → Prop} {tree : Sem Flow} {Q : Flow → Shared → Prop} {s : Shared} {h₀ : Heap} {L : Addr} {m : Str → Option Value} {q : Addr × Obj} {a : Addr} {o₀ : Obj} (P : Int → Prop)
    (_F : Fr h₀ L s.heap m) (_N : News h₀ L s.heap [q, (a, o₀)]) (walk : wpAny M A tree (AfterC2 h₀ L m s q a P) E s)
    (h : ∀ z t o h' tk', P z → o.data = Data.cell (some (.int z t)) → Fr h₀ L h' m → News h₀ L h' [q, (a, o)] → Q .next { s with heap := h', toks := tk' }) : wpAny M A tree Q E s := by
  refine wpAny_mono walk (fun f s' hq => ?_) fun _ _ x => x
  obtain ⟨rfl, z, t, o, h', tk', hz, ho, rfl, F', N'⟩ := hq
  exact h z t o h' tk' hz ho F' N'
theorem afterC2_one {h₀ : Heap} {L : Addr} {m : Str → Option Value} {news' : List (Addr × Obj)} {s : Shared} {q : Addr × Obj} {a : Addr} {o : Obj} {P : Int → Prop} {z : Int} {t : Tok} {h' : Heap} {tk' : Nat}
    (F : Fr h₀ L h' m) (N : News h₀ L h' news') (d : o.data = Data.cell (some (.int z t))) (hn : ∀ p ∈ [q, (a, o)], p ∈ news') (hz : P z) : AfterC2 h₀ L m s q a P .next { s with heap := h', toks := tk' } :=
  ⟨rfl, z, t, o, h', tk', hz, d, rfl, F, fun p hp => N p (hn p hp)⟩
/-! the distance without a bound, row by row, on natural numbers -/
def vOf (c x d l r : Nat) : Nat :=
  let p := (if r < l then r else l) + 2
  let q := d + (if c = x then 0 else if lowc c = lowc x then 1 else 2)
  if q < p then q else p
def inS (c : Nat) : List Nat → List Nat → Nat → Nat → List Nat
  | x :: as, r :: rs, d, l => vOf c x d l r :: inS c as rs r (vOf c x d l r)
  | _, _, _, _ => []
def lastS : List Nat → Nat → Nat
  | [], d => d
  | x :: l, _ => lastS l x
def outS (a : List Nat) : List Nat → List Nat → Nat → List Nat
  | [], row, _ => row
  | c :: bs, row, i => outS a bs (inS c a row (2 * i) (2 * i)) (i + 1)
def rowS (n : Nat) : List Nat := (List.range n).map fun i => 2 + 2 * i
def coreS (a b : List Nat) : Nat := lastS (outS a b (rowS a.length) 0) 0

def toZ (l : List Nat) : List Int := l.map fun (n : Nat) => (n : Int)
theorem toZ_len (l : List Nat) : (toZ l).length = l.length := by simp [toZ]
theorem inS_len (c : Nat) : ∀ (as rs : List Nat) (d l : Nat), as.length = rs.length → (inS c as rs d l).length = as.length
  | [], [], _, _, _ => rfl
  | [], _ :: _, _, _, h => by simp at h
  | _ :: _, [], _, _, h => by simp at h
  | x :: as, r :: rs, d, l, h => by
    simp only [inS, List.length_cons]
    rw [inS_len c as rs r _ (by simpa using h)]
theorem vOf_z (c x d l r : Nat) : ((vOf c x d l r : Nat) : Int) =
    (if (d : Int) + subc c x < (if (r : Int) < l then (r : Int) else l) + 2 then (d : Int) + subc c x else (if (r : Int) < l then (r : Int) else l) + 2) := by
  have h1 : ((if c = x then 0 else if lowc c = lowc x then 1 else 2 : Nat) : Int) = subc c x := by
    unfold subc; split
    · rfl
    · split <;> rfl
  have h2 : (((if r < l then r else l) : Nat) : Int) = if (r : Int) < l then (r : Int) else l := by
    split <;> split <;> omega
  unfold vOf
  simp only
  rw [← h1, ← h2]
  generalize (if c = x then 0 else if lowc c = lowc x then 1 else 2 : Nat) = S
  generalize (if r < l then r else l) = P
  split <;> split <;> omega
/-- the least of a row, as the walk finds it -/
def minS : List Nat → Int → Int
  | [], m => m
  | v :: l, m => minS l (if (v : Int) < m then (v : Int) else m)
theorem minS_le : ∀ (l : List Nat) (m : Int), minS l m ≤ m ∧ ∀ v ∈ l, minS l m ≤ v
  | [], m => by simp [minS]
  | v :: l, m => by
    have h := minS_le l (if (v : Int) < m then (v : Int) else m)
    simp only [minS]
    have h1 : (if (v : Int) < m then (v : Int) else m) ≤ m := by split <;> omega
    have h2 : (if (v : Int) < m then (v : Int) else m) ≤ v := by split <;> omega
    refine ⟨by omega, fun u hu => ?_⟩
    rcases List.mem_cons.mp hu with rfl | hu
    · omega
    · exact h.2 u hu
theorem cells_eq (c : Nat) (row0 : List Int) (d0 : Int) : ∀ (as rs : List Nat) (pa : List Nat) (pr : List Int) (d l : Nat) (mn : Int), as.length = rs.length → pa.length = pr.length →
    cells (pa ++ as) c row0 d0 pa.length = (pr ++ toZ rs, (d : Int), (l : Int), mn) →
    ∃ e : Int, cells (pa ++ as) c row0 d0 (pa.length + as.length) = (pr ++ toZ (inS c as rs d l), e, ((lastS (inS c as rs d l) l : Nat) : Int), minS (inS c as rs d l) mn)
  | [], [], pa, pr, d, l, mn, _, _, h => ⟨d, by simpa [inS, lastS, minS] using h⟩
  | [], _ :: _, _, _, _, _, _, h, _, _ => by simp at h
  | _ :: _, [], _, _, _, _, _, h, _, _ => by simp at h
  | x :: as, r :: rs, pa, pr, d, l, mn, hl, hp, h => by
    have hx : (pa ++ x :: as).getD pa.length 0 = x := by simp
    have hr : (pr ++ toZ (r :: rs)).getD pa.length 0 = (r : Int) := by rw [hp]; simp [toZ]
    have step : cells (pa ++ x :: as) c row0 d0 (pa.length + 1) = (pr ++ [((vOf c x d l r : Nat) : Int)] ++ toZ rs, (r : Int), ((vOf c x d l r : Nat) : Int), if ((vOf c x d l r : Nat) : Int) < mn then ((vOf c x d l r : Nat) : Int) else mn) := by
      simp only [cells, h, hx, hr]
      rw [← vOf_z]
      congr 1
      rw [hp]
      simp [toZ]
    have e1 : pa ++ x :: as = (pa ++ [x]) ++ as := by simp
    have e2 : (pa ++ [x]).length = pa.length + 1 := by simp
    rw [e1] at step ⊢
    rw [← e2] at step
    obtain ⟨e, he⟩ := cells_eq c row0 d0 as rs (pa ++ [x]) (pr ++ [((vOf c x d l r : Nat) : Int)]) r (vOf c x d l r) _ (by simpa using hl) (by simp [hp]) step
    refine ⟨e, ?_⟩
    have e3 : pa.length + (x :: as).length = (pa ++ [x]).length + as.length := by simp; omega
    rw [e3, he]
    simp [inS, lastS, minS, toZ]
theorem cells_S (a : List Nat) (c : Nat) (rs : List Nat) (d : Nat) (hl : a.length = rs.length) :
    ∃ e : Int, cells a c (toZ rs) (d : Int) a.length = (toZ (inS c a rs d d), e, ((lastS (inS c a rs d d) d : Nat) : Int), minS (inS c a rs d d) 9223372036854775807) := by
  obtain ⟨e, he⟩ := cells_eq c (toZ rs) d a rs [] [] d d 9223372036854775807 hl rfl rfl
  refine ⟨e, ?_⟩
  simpa using he
/-- the rows of the reckoning without a bound -/
def rowN (a b : List Nat) : Nat → List Nat
  | 0 => rowS a.length
  | n + 1 => inS (b.getD n 0) a (rowN a b n) (2 * n) (2 * n)
theorem rowN_len (a b : List Nat) : ∀ n, (rowN a b n).length = a.length
  | 0 => by simp [rowN, rowS]
  | n + 1 => by
    have := rowN_len a b n
    simp only [rowN]
    rw [inS_len _ _ _ _ _ this.symm]
theorem toZ_rowS (n : Nat) : toZ (rowS n) = row0 n := by
  simp [toZ, rowS, row0]
theorem vOf_ge {c x d l r : Nat} {k : Int} (hd : k ≤ d) (hl : k ≤ l) (hr : k ≤ r) : k ≤ vOf c x d l r := by
  unfold vOf
  simp only
  have hP : k ≤ ((if r < l then r else l : Nat) : Int) := by split <;> omega
  generalize (if c = x then 0 else if lowc c = lowc x then 1 else 2 : Nat) = S
  generalize (if r < l then r else l) = P at *
  split <;> omega
theorem inS_ge (c : Nat) {k : Int} : ∀ (as rs : List Nat) (d l : Nat), k ≤ d → k ≤ l → (∀ v ∈ rs, k ≤ ((v : Nat) : Int)) → ∀ v ∈ inS c as rs d l, k ≤ ((v : Nat) : Int)
  | [], _, _, _, _, _, _ => by simp [inS]
  | _ :: _, [], _, _, _, _, _ => by simp [inS]
  | x :: as, r :: rs, d, l, hd, hl, hr => by
    have h1 : k ≤ ((vOf c x d l r : Nat) : Int) := vOf_ge hd hl (hr r (by simp))
    intro v hv
    simp only [inS, List.mem_cons] at hv
    rcases hv with rfl | hv
    · exact h1
    · exact inS_ge c as rs r _ (hr r (by simp)) h1 (fun u hu => hr u (by simp [hu])) v hv
theorem inS_head {c x : Nat} {as rs : List Nat} {r d l : Nat} : vOf c x d l r ∈ inS c (x :: as) (r :: rs) d l := by simp [inS]
theorem vOf_le (c x d l r : Nat) : vOf c x d l r ≤ d + 2 := by
  unfold vOf
  simp only
  have hS : (if c = x then 0 else if lowc c = lowc x then 1 else 2 : Nat) ≤ 2 := by split <;> (try split) <;> omega
  generalize (if c = x then 0 else if lowc c = lowc x then 1 else 2 : Nat) = S at *
  generalize (if r < l then r else l) = P
  split <;> omega
/-- a row has ended the reckoning: all later ones lie above the bound -/
def Above (a b : List Nat) (m : Int) (n : Nat) : Prop := (∀ v ∈ rowN a b n, m + 1 ≤ ((v : Nat) : Int)) ∧ m + 1 ≤ 2 * (n : Int)
theorem above_s {a b : List Nat} {m : Int} {n : Nat} (h : Above a b m n) : Above a b m (n + 1) := by
  refine ⟨fun v hv => ?_, ?_⟩
  · exact inS_ge _ a _ (2 * n) (2 * n) (by have := h.2; omega) (by have := h.2; omega) h.1 v hv
  · have := h.2; omega
theorem rows_or {a b : List Nat} (ha : 0 < a.length) (m : Int) (hm : m < 9223372036854775807) : ∀ n, (rows a b m n = none ∧ Above a b m n) ∨ ∃ x, rows a b m n = some (toZ (rowN a b n), x) ∧ (0 < n → x = ((lastS (rowN a b n) 0 : Nat) : Int))
  | 0 => .inr ⟨0, by simp [rows, rowN, toZ_rowS], by simp⟩
  | n + 1 => by
    rcases rows_or (b := b) ha m hm n with ⟨h1, h2⟩ | ⟨x, h1, _⟩
    · exact .inl ⟨by simp only [rows, h1], above_s h2⟩
    · obtain ⟨e, he⟩ := cells_S a (b.getD n 0) (rowN a b n) (2 * n) (rowN_len a b n).symm
      have hd : ((n : Int) * 2) = ((2 * n : Nat) : Int) := by omega
      rw [← hd] at he
      have hnx := rows_next h1 he
      by_cases hlt : m < minS (inS (b.getD n 0) a (rowN a b n) (2 * n) (2 * n)) 9223372036854775807
      · rw [if_pos hlt] at hnx
        refine .inl ⟨hnx, fun v hv => ?_, ?_⟩
        · have hv' : v ∈ inS (b.getD n 0) a (rowN a b n) (2 * n) (2 * n) := hv
          have := (minS_le _ 9223372036854775807).2 v hv'
          omega
        · cases a with
          | nil => simp at ha
          | cons x as =>
            have hl := rowN_len (x :: as) b n
            cases hrow : rowN (x :: as) b n with
            | nil => rw [hrow] at hl; simp at hl
            | cons r rs =>
              rw [hrow] at hlt
              have h3 := (minS_le _ 9223372036854775807).2 _ (inS_head (c := b.getD n 0) (x := x) (as := as) (rs := rs) (r := r) (d := 2 * n) (l := 2 * n))
              have h4 := vOf_le (b.getD n 0) x (2 * n) (2 * n) r
              omega
      · rw [if_neg hlt] at hnx
        refine .inr ⟨_, hnx, fun _ => ?_⟩
        cases a with
        | nil => simp at ha
        | cons x as =>
          have hl := rowN_len (x :: as) b n
          cases hrow : rowN (x :: as) b n with
          | nil => rw [hrow] at hl; simp at hl
          | cons r rs => simp [rowN, hrow, inS, lastS]
theorem lastS_mem : ∀ (l : List Nat) (d : Nat), l ≠ [] → lastS l d ∈ l
  | [x], _, _ => by simp [lastS]
  | x :: y :: l, _, _ => by
    have := lastS_mem (y :: l) x (by simp)
    simp only [lastS] at this ⊢
    exact List.mem_cons_of_mem _ this
theorem outS_rowN (a b : List Nat) : ∀ (bs : List Nat) (n : Nat), b.drop n = bs → outS a bs (rowN a b n) n = rowN a b (n + bs.length)
  | [], n, _ => by simp [outS]
  | c :: bs, n, h => by
    have hc : b.getD n 0 = c := by
      have : (b.drop n)[0]? = some c := by rw [h]; rfl
      rw [List.getElem?_drop] at this
      simp only [Nat.add_zero] at this
      simp [List.getD, this]
    have hd : b.drop (n + 1) = bs := by
      have := congrArg (List.drop 1) h
      rw [List.drop_drop] at this
      simpa using this
    have ih := outS_rowN a b bs (n + 1) hd
    simp only [outS]
    have e : inS c a (rowN a b n) (2 * n) (2 * n) = rowN a b (n + 1) := by simp only [rowN, hc]
    rw [e, ih]
    congr 1
    simp; omega
theorem coreS_eq (a b : List Nat) : coreS a b = lastS (rowN a b b.length) 0 := by
  unfold coreS
  have := outS_rowN a b b 0 rfl
  simp only [rowN, Nat.zero_add] at this
  rw [this]
/-- the bounded reckoning tells the distance, or one more than the bound where that is no more than the distance -/
theorem core_or {a b : List Nat} {m : Int} (ha : 0 < a.length) (hab : a.length ≤ b.length) (hm : m < 9223372036854775807) (hlen : 2 * (b.length - a.length) ≤ coreS a b) :
    core a b m = (coreS a b : Nat) ∨ (core a b m = m + 1 ∧ m + 1 ≤ (coreS a b : Nat)) := by
  unfold core
  split
  · rename_i h
    exact .inr ⟨rfl, by omega⟩
  · rw [coreS_eq]
    have hne : rowN a b b.length ≠ [] := by
      intro h
      have := rowN_len a b b.length
      rw [h] at this; simp at this; omega
    rcases rows_or (b := b) ha m hm b.length with ⟨h1, h2⟩ | ⟨x, h1, h2⟩
    · rw [h1]
      exact .inr ⟨rfl, h2.1 _ (lastS_mem _ 0 hne)⟩
    · rw [h1]
      exact .inl (h2 (by omega))
/-- the distance of two words -/
def midS (a b : List Nat) : Nat := if a = [] ∨ b = [] then 2 * (a.length + b.length) else if b.length < a.length then coreS b a else coreS a b
def levS (a b : List Nat) : Nat :=
  if a = b then 0 else
    let a1 := a.drop (cpl a b)
    let b1 := b.drop (cpl a b)
    midS (a1.take (a1.length - cutEnd a1 b1)) (b1.take (b1.length - cutEnd a1 b1))
theorem mid_or {a b : List Nat} {m : Int} (hm : m < 9223372036854775807) (hlen : 2 * (b.length - a.length) ≤ midS a b ∧ 2 * (a.length - b.length) ≤ midS a b) :
    mid a b m = (midS a b : Nat) ∨ (mid a b m = m + 1 ∧ m + 1 ≤ (midS a b : Nat)) := by
  unfold mid midS
  unfold midS at hlen
  split
  · exact .inl (by omega)
  · rename_i hne
    rw [if_neg hne] at hlen
    have h1 : a ≠ [] := fun h => hne (.inl h)
    have h2 : b ≠ [] := fun h => hne (.inr h)
    have h3 := List.length_pos_iff.mpr h1
    have h4 := List.length_pos_iff.mpr h2
    split
    · rename_i hlt
      rw [if_pos hlt] at hlen
      exact core_or h4 (by omega) hm hlen.2
    · rename_i hlt
      rw [if_neg hlt] at hlen
      exact core_or h3 (by omega) hm hlen.1
theorem lev_or {a b : List Nat} {m : Int} (hm : m < 9223372036854775807) (hlen : 2 * (b.length - a.length) ≤ levS a b ∧ 2 * (a.length - b.length) ≤ levS a b) :
    lev a b m = (levS a b : Nat) ∨ (lev a b m = m + 1 ∧ m + 1 ≤ (levS a b : Nat)) := by
  unfold lev levS
  unfold levS at hlen
  split
  · exact .inl (by omega)
  · rename_i hne
    rw [if_neg hne] at hlen
    have hc := cpl_le a b
    have h1 := List.length_drop (i := cpl a b) (l := a)
    have h2 := List.length_drop (i := cpl a b) (l := b)
    have hq := cutEnd_le (a.drop (cpl a b)) (b.drop (cpl a b))
    refine mid_or hm ?_
    simp only [List.length_take] at hlen ⊢
    constructor
    · refine Nat.le_trans ?_ hlen.1
      omega
    · refine Nat.le_trans ?_ hlen.2
      omega
/-! the same distance in a form that the kernel reckons fast -/
noncomputable def lowF (c : Nat) : Nat := Bool.rec c (Bool.rec c (Nat.add c 32) (Nat.ble c 90)) (Nat.ble 65 c)
theorem lowF_eq (c : Nat) : lowF c = lowc c := by
  unfold lowF lowc
  by_cases h1 : 65 ≤ c
  · have e1 : Nat.ble 65 c = true := Nat.ble_eq.mpr h1
    rw [e1]
    by_cases h2 : c ≤ 90
    · have e2 : Nat.ble c 90 = true := Nat.ble_eq.mpr h2
      rw [e2, if_pos ⟨h1, h2⟩]
    · have e2 : Nat.ble c 90 = false := by
        cases h : Nat.ble c 90 with
        | false => rfl
        | true => exact absurd (Nat.ble_eq.mp h) h2
      rw [e2, if_neg (fun q => h2 q.2)]
  · have e1 : Nat.ble 65 c = false := by
      cases h : Nat.ble 65 c with
      | false => rfl
      | true => exact absurd (Nat.ble_eq.mp h) h1
    rw [e1, if_neg (fun q => h1 q.1)]
noncomputable def inF (c : Nat) (as : List Nat) : List Nat → Nat → Nat → (List Nat → Nat) → Nat :=
  List.rec (fun _ _ _ k => k []) (fun x _ ih rs d l k => List.rec (k []) (fun r rs' _ =>
    (fun p q => Bool.rec (ih rs' r q (fun o => k (q :: o))) (ih rs' r p (fun o => k (p :: o))) (Nat.ble p q))
      (Nat.add (Bool.rec r l (Nat.ble l r)) 2) (Nat.add d (Bool.rec (Bool.rec 2 1 (Nat.beq (lowF c) (lowF x))) 0 (Nat.beq c x)))) rs) as
noncomputable def outF (a b : List Nat) : List Nat → Nat → (List Nat → Nat) → Nat :=
  List.rec (fun row _ k => k row) (fun c _ ih row i k => inF c a row (Nat.mul 2 i) (Nat.mul 2 i) (fun r => ih r (Nat.add i 1) k)) b
noncomputable def lastF (l : List Nat) : Nat → Nat := List.rec (fun d => d) (fun x _ ih _ => ih x) l
noncomputable def coreF (a b : List Nat) : Nat := outF a b (rowS a.length) 0 (fun r => lastF r 0)
theorem bool_rec {α : Type} (t e : α) (b : Bool) : (Bool.rec e t b : α) = if b = true then t else e := by cases b <;> rfl
theorem val_eq (c x d l r : Nat) : (let p := Nat.add (Bool.rec (motive := fun _ => Nat) r l (Nat.ble l r)) 2
    let q := Nat.add d (Bool.rec (motive := fun _ => Nat) (Bool.rec (motive := fun _ => Nat) 2 1 (Nat.beq (lowF c) (lowF x))) 0 (Nat.beq c x))
    if Nat.ble p q = true then p else q) = vOf c x d l r := by
  simp only [bool_rec, lowF_eq, Nat.ble_eq, Nat.beq_eq]
  unfold vOf
  simp only [Nat.add_eq]
  have e1 : (if l ≤ r then l else r) = if r < l then r else l := by split <;> split <;> omega
  rw [e1]
  generalize (if c = x then 0 else if lowc c = lowc x then 1 else 2 : Nat) = S
  generalize (if r < l then r else l) = P
  split <;> split <;> omega
theorem inF_eq (c : Nat) : ∀ (as rs : List Nat) (d l : Nat) (k : List Nat → Nat), inF c as rs d l k = k (inS c as rs d l)
  | [], rs, _, _, _ => by cases rs <;> rfl
  | _ :: _, [], _, _, _ => rfl
  | x :: as, r :: rs, d, l, k => by
    have hv := val_eq c x d l r
    simp only at hv
    show (Bool.rec (motive := fun _ => Nat) (inF c as rs r _ _) (inF c as rs r _ _) (Nat.ble _ _) : Nat) = _
    rw [bool_rec, inF_eq c as rs, inF_eq c as rs]
    simp only [inS]
    rw [← hv]
    split <;> rfl
theorem outF_eq (a : List Nat) : ∀ (b row : List Nat) (i : Nat) (k : List Nat → Nat), outF a b row i k = k (outS a b row i)
  | [], _, _, _ => rfl
  | c :: b, row, i, k => by
    show inF c a row (2 * i) (2 * i) (fun r => outF a b r (i + 1) k) = _
    rw [inF_eq, outF_eq a b]
    rfl
theorem lastF_eq : ∀ (l : List Nat) (d : Nat), lastF l d = lastS l d
  | [], _ => rfl
  | x :: l, d => by show lastF l x = lastS l x; exact lastF_eq l x
theorem coreF_eq (a b : List Nat) : coreF a b = coreS a b := by
  unfold coreF coreS
  rw [outF_eq, lastF_eq]
noncomputable def midF (a b : List Nat) : Nat := if a = [] ∨ b = [] then 2 * (a.length + b.length) else if b.length < a.length then coreF b a else coreF a b
noncomputable def levF (a b : List Nat) : Nat :=
  if a = b then 0 else
    let a1 := a.drop (cpl a b)
    let b1 := b.drop (cpl a b)
    midF (a1.take (a1.length - cutEnd a1 b1)) (b1.take (b1.length - cutEnd a1 b1))
theorem midF_eq (a b : List Nat) : midF a b = midS a b := by unfold midF midS; rw [coreF_eq, coreF_eq]
theorem levF_eq (a b : List Nat) : levF a b = levS a b := by
  unfold levF levS
  split
  · rfl
  · exact midF_eq _ _
set_option maxRecDepth 100000 in
set_option maxHeartbeats 8000000 in
open_top hd for PySem.Challenge.rw_ph0053_01
set_option maxHeartbeats 8000000 in
theorem sub_con {w : World} {mean : ExcName → Option Value} {mg mb : Str → Option Value} (s : Shared) (c d : Nat) (t u : Tok) (hc : c < 128) (hd : d < 128) :
    Con PySem.Challenge.rw_ph0053_01.row.prog w (Mine.hd.heap_39 w.params) Mine.hd.view_39 (looseW Mine.hd.view_39 []) mean mg mb 21 1 s [.str (St [c]) t, .str (St [d]) u] (fun v _ => ∃ t, v = .int (subc c d) t) := by
  w_top off
  k_with_none
  k_fill
  k_dflt (refine' con_enter (binds := [(Str.ofString "ch_a", .str (St [c]) t), (Str.ofString "ch_b", .str (St [d]) u)]) ?k0 ?k6 ?k7 ?k9 ?kB ?_ ?c2 ?c3 ?c4 ?c5; (case k0 => decide); (case k6 => k_is); (case k7 => k_is); (case k9 => exact BindsTo.of_eq rfl); (case c5 => decide); (case kB => exact locs rfl); (case c2 => exact rfl); (case c3 => exact rfl); (case c4 => exact rfl))
  intro dp un gd outer base L h₁ R' F N B X T hd' hu
  have hM := kstMark
  rw [St_one, St_one] at F
  k_steps
  all_goals (dsimp only; refine done_int (by assumption) ?_; simp only [← St_one, St_beq, lower_one hc, lower_one hd, decide_eq_true_eq, decide_eq_false_iff_not, List.cons.injEq, and_true] at *; simp [subc, *])
set_option maxHeartbeats 8000000 in
theorem lev_con {w : World} {mean : ExcName → Option Value} {mg mb : Str → Option Value} (s : Shared) (la lb : List Nat) (mc : Int) (t u v : Tok) (ha : ∀ c ∈ la, c < 128) (hb : ∀ c ∈ lb, c < 128) (hla : la.length ≤ 20) (hlb : lb.length ≤ 20) (hm0 : -1000 ≤ mc) (hm1 : mc ≤ 1000) :
    Con PySem.Challenge.rw_ph0053_01.row.prog w (Mine.hd.heap_39 w.params) Mine.hd.view_39 (looseW Mine.hd.view_39 []) mean mg mb 28 2 s [.str (St la) t, .str (St lb) u, .int mc v] (fun v _ => ∃ t, v = .int (lev la lb mc) t) := by
  w_top off
  k_with_none
  k_fill
  k_dflt (refine' con_enter (binds := [(Str.ofString "a", .str (St la) t), (Str.ofString "b", .str (St lb) u), (Str.ofString "max_cost", .int mc v)]) ?k0 ?k6 ?k7 ?k9 ?kB ?_ ?c2 ?c3 ?c4 ?c5; (case k0 => decide); (case k6 => k_is); (case k7 => k_is); (case k9 => exact BindsTo.of_eq rfl); (case c5 => decide); (case kB => exact locs rfl); (case c2 => exact rfl); (case c3 => exact rfl); (case c4 => exact rfl))
  intro dp un gd outer base L h₁ R' F N B X T hd' hu
  have hM := kstMark
  k_with "exec While BoolOp cons nil" => refine stop ?_
  k_with "subscriptTail Name Slice str ref" => ((first
    | (refine' w_from (s := ⟨_, _, _, _, _⟩) ?zF ?zN ?zA ?zB ?zC ?_ ?zD ?zE; (case zA => omega); (case zB => omega))
    | (refine' w_to (s := ⟨_, _, _, _, _⟩) ?zF ?zN ?zA ?zB ?zC ?_ ?zD ?zE; (case zA => omega); (case zB => omega))
    | refine' w_all (s := ⟨_, _, _, _, _⟩) ?zF ?zN ?zC ?_ ?zD ?zE); (case zF => k_asm); (case zN => k_asm); (case zC => omega); (case zD => with_unfolding_all rfl); (case zE => intro _; with_unfolding_all rfl); intro _ _ _ _ _)
  k_with "subscriptTail Name BinOp str int" => ((refine' w_itemN ?zA ?zB ?zC ?_ ?zD ?zE; (case zA => omega); (case zB => ((try simp only [List.length_take] at *); omega)); (case zC => omega); (case zD => with_unfolding_all rfl); (case zE => intro _; with_unfolding_all rfl); intro _))
  k_with "subscriptTail Name Name str int" => ((refine' w_item ?zA ?zB ?zC ?_ ?zD ?zE; (case zA => omega); (case zB => (simp only [List.length_drop] at *; omega)); (case zC => omega); (case zD => with_unfolding_all rfl); (case zE => intro _; with_unfolding_all rfl); intro _))
  k_with "call builtin:len" => ((refine' w_len ?zC ?_; (case zC => omega); intro _))
  k_with "call type:list" => ((refine' w_rows ?zH ?zF ?zN ?zR ?zC ?_; (case zH => exact rfl); (case zF => k_asm); (case zN => k_asm); (case zR => assumption); (case zC => omega); intro D' ys' c' h' tk' F' N' l1 hI'; (try k_lt l1)))
  k_with "call ref" => ((k_dflt (refine' con_use (sub_con _ _ _ _ _ ?zc ?ze) ?zB ?zF ?zX ?zN ?zT ?zf ?zk ?zr ?zu ?_); (case zc => exact getD_lt (by assumption) _); (case ze => exact getD_lt (by assumption) _); (case zB => k_asm); (case zF => k_asm); (case zX => k_asm); (case zN => k_asm); (case zT => k_asm); (case zf => k_dflt exact rfl); (case zk => k_dflt exact rfl); (case zr => (show dp + 1 + 1 < recursionLimit); omega); (case zu => ktr_units); rintro _ _ _ ⟨_, rfl⟩ _ _ _))
  k_with "truthy str" => ((refine' w_truth ?zC ?_ ?_; (case zC => ((try simp only [List.length_drop, List.length_take]); omega)); all_goals (intro _ _)))
  k_with "compareOp Eq str str" => ((refine' w_eq ?_ ?_; all_goals (intro _)))
  k_steps
  · dsimp only
    refine done_int (by assumption) ?_
    simp [lev, *]
  · refine Stop.go (cut_int (Str.ofString "pre") (cpl la lb : Nat) (by assumption) (by assumption) ?_ ?_)
    · k_with "state" => first | exact inv1_0 _ _ | exact inv1_s (by assumption) (by assumption) (by assumption) (by assumption) (by assumption) (by assumption) (by assumption)
      k_with "measure" => (simp only [List.length_drop] at *; omega)
      k_while (fun _ pre => Inv1 la lb pre) (fun _ pre => la.length - pre.toNat) "pre"
      k_steps
      · exact after_one (by assumption) (by assumption) (inv1_e3 (by assumption) (by assumption) (by assumption) (by assumption) (by assumption))
      · exact after_one (by assumption) (by assumption) (inv1_e2 (by assumption) (by assumption) (by assumption))
      · exact after_one (by assumption) (by assumption) (inv1_e1 (by assumption) (by assumption) (by assumption))
    · intro t1 h1 tk1 F1 N1
      have hc1 := (cpl_le la lb).1
      have hc2 := (cpl_le la lb).2
      k_steps
      simp only [Int.toNat_natCast] at *
      generalize ea : la.drop (cpl la lb) = a1 at *
      generalize eb : lb.drop (cpl la lb) = b1 at *
      have hla1 : a1.length ≤ 20 := by rw [← ea, List.length_drop]; omega
      have hlb1 : b1.length ≤ 20 := by rw [← eb, List.length_drop]; omega
      have ha1 : ∀ c ∈ a1, c < 128 := fun c hc => ha c (List.mem_of_mem_drop (ea ▸ hc))
      have hb1 : ∀ c ∈ b1, c < 128 := fun c hc => hb c (List.mem_of_mem_drop (eb ▸ hc))
      have hlev : lev la lb mc = ends a1 b1 mc := by unfold lev; rw [if_neg (by assumption), ea, eb]
      rw [hlev]
      clear hlev ea eb ha hb hla hlb
      refine Stop.go (cut_int (Str.ofString "post") (-(cutEnd a1 b1 : Nat)) (by assumption) (by assumption) ?_ ?_)
      · k_with "state" => first | exact inv2_0 _ _ | exact inv2_s (by assumption) (by assumption) (by assumption) (by assumption) (by (try simp only [List.length_take] at *); omega) (by (try simp only [List.length_take] at *); omega) (by assumption)
        k_with "measure" => ((try simp only [List.length_take] at *); omega)
        k_while (fun _ post => Inv2 a1 b1 post) (fun _ post => a1.length - (-post).toNat) "post"
        k_steps
        all_goals first
          | exact after_one (by assumption) (by assumption) (inv2_e3 (by assumption) (by assumption) (by (try simp only [List.length_take] at *); omega) (by (try simp only [List.length_take] at *); omega) (by assumption))
          | exact after_one (by assumption) (by assumption) (inv2_e2 (by assumption) (by assumption) (by (try simp only [List.length_take] at *); omega))
          | exact after_one (by assumption) (by assumption) (inv2_e1 (by assumption) (by assumption) (by (try simp only [List.length_take] at *); omega))
          | (exfalso; omega)
      · intro t2 h2 tk2 F2 N2
        have hq1 := (cutEnd_le a1 b1).1
        have hq2 := (cutEnd_le a1 b1).2
        have hA := markA
        k_with "exec Assign cons Subscript" => ((rename MarkA => hA'); refine stop ?_)
        k_steps
        refine Stop.go (cut_val (Str.ofString "a") (fun t => .str (St (a1.take (a1.length - cutEnd a1 b1))) t) (by assumption) (by assumption) ?_ ?_)
        · clear hA'
          k_steps
          · exact afterV_str (by assumption) (by assumption) (by congr 1; omega)
          · exact afterV_str (by assumption) (by assumption) (List.take_of_length_le (by omega))
        · intro t3 h3 tk3 F3 N3
          k_steps
          refine Stop.go (cut_val (Str.ofString "b") (fun t => .str (St (b1.take (b1.length - cutEnd a1 b1))) t) (by assumption) (by assumption) ?_ ?_)
          · clear hA'
            k_steps
            · exact afterV_str (by assumption) (by assumption) (by congr 1; omega)
            · exact afterV_str (by assumption) (by assumption) (List.take_of_length_le (by omega))
          · clear hA'
            intro t4 h4 tk4 F4 N4
            have hends : ends a1 b1 mc = mid (a1.take (a1.length - cutEnd a1 b1)) (b1.take (b1.length - cutEnd a1 b1)) mc := rfl
            rw [hends]
            generalize ea : a1.take (a1.length - cutEnd a1 b1) = a2 at *
            generalize eb : b1.take (b1.length - cutEnd a1 b1) = b2 at *
            have hla2 : a2.length ≤ 20 := by rw [← ea, List.length_take]; omega
            have hlb2 : b2.length ≤ 20 := by rw [← eb, List.length_take]; omega
            have ha2 : ∀ c ∈ a2, c < 128 := fun c hc => ha1 c (List.mem_of_mem_take (ea ▸ hc))
            have hb2 : ∀ c ∈ b2, c < 128 := fun c hc => hb1 c (List.mem_of_mem_take (eb ▸ hc))
            clear hends ea eb ha1 hb1 hla1 hlb1
            have hB := markB
            k_with "exec If Compare cons nil" => ((rename MarkB => hB'); refine stop ?_)
            k_steps
            · refine Stop.go (cut_two (Str.ofString "a") (Str.ofString "b") (fun t => .str (St (sh a2 b2)) t) (fun t => .str (St (lg a2 b2)) t) (by assumption) (by assumption) ?_ ?_)
              · clear hB'
                k_steps
                · have e1 : sh a2 b2 = b2 := by unfold sh; rw [if_pos (by omega)]
                  have e2 : lg a2 b2 = a2 := by unfold lg; rw [if_pos (by omega)]
                  rw [e1, e2]
                  exact after2_set _ _ (by assumption) (by assumption) (fun _ h => nomatch h) rfl rfl
                · have e1 : sh a2 b2 = a2 := by unfold sh; rw [if_neg (by omega)]
                  have e2 : lg a2 b2 = b2 := by unfold lg; rw [if_neg (by omega)]
                  rw [e1, e2]
                  exact after2_same _ _ (by assumption) (by assumption) rfl rfl
              · clear hB'
                intro t5 t6 h5 tk5 F5 N5
                rw [mid_core (by assumption) (by assumption)]
                have hs0 := sh_lg a2 b2
                have hs1 : 0 < (sh a2 b2).length := by unfold sh; split <;> omega
                have hs2 : (lg a2 b2).length ≤ 20 := by unfold lg; split <;> omega
                have hs3 : ∀ c ∈ sh a2 b2, c < 128 := by unfold sh; split <;> assumption
                have hs4 : ∀ c ∈ lg a2 b2, c < 128 := by unfold lg; split <;> assumption
                generalize sh a2 b2 = sa at *
                generalize lg a2 b2 = sb at *
                have hC := markC
                k_with "pyIter ref" => ((rename MarkC => hC'); refine stop ?_)
                k_steps
                · dsimp only
                  refine done_int (by assumption) ?_
                  unfold core
                  rw [if_pos (by omega)]
                refine Stop.go ?_
                clear hC'
                k_with "pyIter ref" => (k_of "bindex" => k_state (fun pre row res => rows sa sb mc pre.length = some (row, res) ∧ row.length = sa.length) "row" "result")
                k_with "pyIter ref" => (k_of "index" => k_state_given ["row!", "bindex"] (fun r0 bi pre row dist res mn => cells sa (sb.getD bi.toNat 0) r0 (bi * 2) pre.length = (row, dist, res, mn) ∧ row.length = sa.length) "row" "distance" "result" "minimum")
                k_with "state" => first | exact ⟨rfl, row0_len _⟩ | exact ⟨rfl, by assumption⟩ | exact cells_lt (by assumption) (by assumption) (by assumption) (by assumption) | exact cells_ge (by assumption) (by assumption) (by assumption) (by assumption) | exact rows_s (by assumption) (by assumption) (by assumption) (by rw [rangeKs_length]; omega) (by assumption) (by assumption)
                k_steps
                · refine done_int (by assumption) ?_
                  exact core_early (by assumption) (by assumption) (by assumption) (by rw [rangeKs_length]; omega) (by assumption) (by omega)
                · dsimp only
                  refine done_int (by assumption) ?_
                  exact core_end (by assumption) (by rw [rangeKs_length]; omega) (by assumption)
            · refine done_int (by assumption) ?_
              unfold mid
              rw [if_pos (.inr (List.length_eq_zero_iff.mp (by assumption)))]
            · refine done_int (by assumption) ?_
              unfold mid
              rw [if_pos (.inl (List.length_eq_zero_iff.mp (by assumption)))]
set_option maxHeartbeats 8000000 in
theorem int2ap_con {w : World} {mean : ExcName → Option Value} {mg mb : Str → Option Value} (s : Shared) (n : Int) (t : Tok) (hn : n.natAbs < 16 ^ 18) :
    Con PySem.Challenge.rw_ph0053_01.row.prog w (Mine.hd.heap_39 w.params) Mine.hd.view_39 (looseW Mine.hd.view_39 []) mean mg mb 35 1 s [.int n t] (fun v _ => ∃ b t, v = .bytes b t ∧ KBw.bInts b = hexOf n.natAbs ∧ b.size ≤ 20) := by
  w_top off
  k_with_none
  k_fill
  k_dflt (refine' con_enter (binds := [(Str.ofString "num", .int n t)]) ?k0 ?k6 ?k7 ?k9 ?kB ?_ ?c2 ?c3 ?c4 ?c5; (case k0 => decide); (case k6 => k_is); (case k7 => k_is); (case k9 => exact BindsTo.of_eq rfl); (case c5 => decide); (case kB => exact locs rfl); (case c2 => exact rfl); (case c3 => exact rfl); (case c4 => exact rfl))
  intro dp un gd outer base L h₁ R' F N B X T hd' hu
  have hM := kstMark
  k_with "exec While Name cons nil" => refine stop ?_
  k_steps
  simp only [abs_ite] at *
  refine Stop.go ?_
  k_with "state" => first | exact inv3_0 _ | exact inv3_s (by assumption) (by assumption) (by assumption) (by assumption) (by assumption) rfl rfl (ap_mod _)
  k_while (fun _ num val => Inv3 n num val) (fun _ num val => num.toNat) "num" "val"
  k_with "subscriptTail Name Slice bytes ref" => (refine' KBc.slice_K (b := apB) (s := ⟨_, _, _, _, _⟩) ?zF ?zN ?zK ?zl ?zu ?zz ?_ ?zs ?zt; (case zF => k_asm); (case zN => k_asm); (case zK => exact rfl); (case zl => constructor); (case zu => constructor); (case zz => decide); (case zs => with_unfolding_all rfl); (case zt => intro _; with_unfolding_all rfl); intro _ _ _ _ _ _)
  k_with "binaryOp Add bytes bytes" => (refine' KBy.add_bytes ?zz ?_; (case zz => (rw [one_size (ap_mod _)]; omega)); intro _ _)
  k_with "measure" => (rw [Int.fdiv_eq_ediv_of_nonneg _ (by decide)]; omega)
  k_steps

  · dsimp only
    rename_i hh _ hz
    rw [hz] at hh
    exact done_intro (by assumption) ⟨_, _, rfl, by rw [hh]; simp [hexOf_zero], by assumption⟩
set_option maxHeartbeats 8000000 in
theorem word_con {w : World} {mean : ExcName → Option Value} {mg mb : Str → Option Value} (s : Shared) (l : Addr) (vs : List Value) (ns : List Int) (sign : Int) (t : Tok) (hl : s.heap.IsList l vs.toArray) (hi : IntsAre vs ns)
    (hr : ∀ f ∈ ns, 0 ≤ f ∧ f < 16) (hh : ∀ f r, ns = f :: r → f ≠ 0) (hz : ns.length ≤ 15) (hs : sign = 1 ∨ sign = -1) :
    Con PySem.Challenge.rw_ph0053_01.row.prog w (Mine.hd.heap_39 w.params) Mine.hd.view_39 (looseW Mine.hd.view_39 []) mean mg mb 47 2 s [.ref l, .int sign t] (fun v _ => ∃ t, v = .str (St (ns.map fun f => (65 + f).toNat)) t) := by
  w_top off
  k_with_none
  k_fill
  k_dflt (refine' con_enter (binds := [(Str.ofString "figures", .ref l), (Str.ofString "sign", .int sign t)]) ?k0 ?k6 ?k7 ?k9 ?kB ?_ ?c2 ?c3 ?c4 ?c5; (case k0 => decide); (case k6 => k_is); (case k7 => k_is); (case k9 => exact BindsTo.of_eq rfl); (case c5 => decide); (case kB => exact locs rfl); (case c2 => exact rfl); (case c3 => exact rfl); (case c4 => exact rfl))
  intro dp un gd outer base L h₁ R' F N B X T hd' hu
  have hM := kstMark
  k_with "pyIter ref" => (k_of "figure" => k_state (fun pre number => number = numOf pre) "number")
  k_with "state" => first | exact rfl | (subst_vars; rw [numOf_snoc])
  k_with "eval ListComp" => (k_dflt (refine ListComp_B (_F₀ := by k_asm) (by with_unfolding_all rfl) (by decide) (by rfl) (by decide) (by rfl) ?_))
  have hb := num_small hr hz
  have hl9 := num_letters hs hr hh
  k_with "call ref" => (k_dflt (refine' con_use (int2ap_con _ _ _ ?zc) ?zB ?zF ?zX ?zN ?zT ?zf ?zk ?zr ?zu ?_); (case zc => (subst_vars; rw [sign_num hs hb.1]; omega)); (case zB => k_asm); (case zF => k_asm); (case zX => k_asm); (case zN => k_asm); (case zT => k_asm); (case zf => k_dflt exact rfl); (case zk => k_dflt exact rfl); (case zr => (show dp + 1 + 1 < recursionLimit); omega); (case zu => ktr_units); rintro _ _ _ ⟨b', tb, rfl, hb', hbz⟩ _ _ _)
  k_steps
  subst_vars
  rw [hl9] at *
  refine srcB_texts (fun k => St [k.toNat]) (ns.map (fun f => 65 + f)) rfl (by assumption) (by assumption) (by assumption) (by rw [List.length_map]; omega) ?_ ?_
  · intro k t I oI C oC D m₂ ys h tk E' hk hC hx F' N' off ne mk
    simp only [LCg.Off3, and_true] at off
    have hk2 := letter_in hr hk
    k_steps
    exact ⟨rfl, _, rfl⟩
  · intro D ys h tk hS F' N'
    k_steps
    refine w_join (News.isList N' (List.Mem.head _)) hS (by rw [List.length_map]; omega) fun t' k => ?_
    refine done_intro F' ⟨t', ?_⟩
    rw [List.map_map]
    rfl
set_option maxHeartbeats 8000000 in
theorem letters_con {w : World} {mean : ExcName → Option Value} {mg mb : Str → Option Value} (s : Shared) (l : Addr) (vs : List Value) (ns : List Int) (hl : s.heap.IsList l vs.toArray) (hi : IntsAre vs ns)
    (hr : ∀ f ∈ ns, 0 ≤ f ∧ f < 16) (hz : ns.length ≤ 15) :
    Con PySem.Challenge.rw_ph0053_01.row.prog w (Mine.hd.heap_39 w.params) Mine.hd.view_39 (looseW Mine.hd.view_39 []) mean mg mb 52 2 s [.ref l] (fun v _ => ∃ t, v = .str (St (ns.map fun f => (65 + f).toNat)) t) := by
  w_top off
  k_with_none
  k_fill
  k_dflt (refine' con_enter (binds := [(Str.ofString "figures", .ref l)]) ?k0 ?k6 ?k7 ?k9 ?kB ?_ ?c2 ?c3 ?c4 ?c5; (case k0 => decide); (case k6 => k_is); (case k7 => k_is); (case k9 => exact BindsTo.of_eq rfl); (case c5 => decide); (case kB => exact locs rfl); (case c2 => exact rfl); (case c3 => exact rfl); (case c4 => exact rfl))
  intro dp un gd outer base L h₁ R' F N B X T hd' hu
  have hM := kstMark
  have hlz := hi.length
  k_with "eval ListComp" => (k_dflt (refine LCg.ListComp_U (F₀ := by k_asm) (by with_unfolding_all rfl) (by decide) (by rfl) (by decide) (by rfl) ?_))
  k_with "CompSrc" => refine stop ?_
  k_steps
  refine Stop.go ?_
  refine LCg.CompSrc.base rfl (by assumption) (by assumption) hl (by rw [List.size_toArray, hlz, sizeLine_eq]; omega) fun g => ?_
  refine kct_list (fun k => St [(65 + k).toNat]) hi ?_ ?_
  · intro k t I oI C oC D m₂ ys h tk E' hk hC hx F' N' off ne mk
    simp only [LCg.Off3] at off
    have hk2 := hr k hk
    k_steps
    exact ⟨rfl, _, by rw [ap_item hk2.1 hk2.2]⟩
  · intro ys hc _ D h tk F' N' _
    have hS := CarriedAll.strsOf hc
    k_steps
    exact done_intro F' ⟨_, by rw [join_up]⟩
/-- the figures from b on, each the last one's product with the factor y, by the modulus p -/
def itr (b y p : Int) : Nat → Int
  | 0 => b
  | i + 1 => (itr b y p i * y).fmod p
def ringP (b y p : Int) (k : Nat) : List Int := (List.range k).map (itr b y p)
/-- the way round is n steps long -/
abbrev Round (b y p : Int) (n : Nat) : Prop := 1 ≤ n ∧ n ≤ 12 ∧ itr b y p n = b ∧ (∀ j, j < n → j ≠ 0 → itr b y p j ≠ b)
theorem itr_in {b y p : Int} (hp : 1 < p) (hb0 : 0 ≤ b) (hb : b < p) (i : Nat) : 0 ≤ itr b y p i ∧ itr b y p i < p := by
  cases i with
  | zero => exact ⟨hb0, hb⟩
  | succ i =>
    have h0 : (0 : Int) ≤ p := by omega
    show 0 ≤ (itr b y p i * y).fmod p ∧ (itr b y p i * y).fmod p < p
    rw [Int.fmod_eq_emod_of_nonneg _ h0]
    exact ⟨Int.emod_nonneg _ (by omega), Int.emod_lt_of_pos _ (by omega)⟩
theorem ringP_len (b y p : Int) (k : Nat) : (ringP b y p k).length = k := by simp [ringP]
theorem ringP_s (b y p : Int) (k : Nat) : ringP b y p (k + 1) = ringP b y p k ++ [itr b y p k] := by
  simp [ringP, List.range_succ]
abbrev Inv4 (b y p : Int) (n : Nat) (row : List Int) : Prop := 1 ≤ row.length ∧ row.length ≤ n ∧ ringP b y p row.length = row
theorem inv4_0 {b y p : Int} {n : Nat} (h : 1 ≤ n) : Inv4 b y p n [b] := ⟨by simp, by simpa using h, rfl⟩
theorem last_itr {b y p : Int} {row : List Int} (h1 : 1 ≤ row.length) (h : ringP b y p row.length = row) : (row.getD (-1 + (row.length : Int)).toNat 0 * y).fmod p = itr b y p row.length := by
  obtain ⟨k, hk⟩ : ∃ k, row.length = k + 1 := ⟨row.length - 1, by omega⟩
  have e : (-1 + (row.length : Int)).toNat = k := by omega
  rw [e, hk]
  show _ = (itr b y p k * y).fmod p
  rw [← h, hk]
  simp [ringP]
theorem inv4_s {b y p : Int} {n : Nat} {row : List Int} (hn : Round b y p n) (h1 : 1 ≤ row.length) (h2 : row.length ≤ n) (h : ringP b y p row.length = row) (hne : (row.getD (-1 + (row.length : Int)).toNat 0 * y).fmod p ≠ b) :
    Inv4 b y p n (row ++ [(row.getD (-1 + (row.length : Int)).toNat 0 * y).fmod p]) ∧ row.length < n := by
  rw [last_itr h1 h] at hne ⊢
  have hlt : row.length < n := by
    rcases Nat.lt_or_ge row.length n with q | q
    · exact q
    · have : row.length = n := by omega
      rw [this] at hne
      exact absurd hn.2.2.1 hne
  refine ⟨⟨by simp, by simp; omega, ?_⟩, hlt⟩
  rw [List.length_append, List.length_singleton, ringP_s, h]
theorem inv4_e {b y p : Int} {n : Nat} {row : List Int} (hn : Round b y p n) (h1 : 1 ≤ row.length) (h2 : row.length ≤ n) (h : ringP b y p row.length = row) (he : (row.getD (-1 + (row.length : Int)).toNat 0 * y).fmod p = b) : row = ringP b y p n := by
  rw [last_itr h1 h] at he
  have : row.length = n := by
    rcases Nat.lt_or_ge row.length n with q | q
    · exact absurd he (hn.2.2.2 _ q (by omega))
    · omega
  rw [← this, h]
theorem fmod_in (x : Int) {m : Int} (h : 0 < m) : 0 ≤ x.fmod m ∧ x.fmod m < m := by
  have h0 : (0 : Int) ≤ m := by omega
  rw [Int.fmod_eq_emod_of_nonneg _ h0]
  exact ⟨Int.emod_nonneg _ (by omega), Int.emod_lt_of_pos _ h⟩
/-- the length of the way round, by trial -/
def rlen (b y p : Int) : Nat := (((List.range 12).map (· + 1)).find? fun j => itr b y p j == b).getD 1
theorem ring_figs {b y p : Int} (hp : 1 < p) (hp2 : p ≤ 13) (hb0 : 1 ≤ b) (hb : b < p) (n : Nat) : ∀ f ∈ ringP b y p n, 0 ≤ f ∧ f < 16 := by
  intro f hf
  obtain ⟨i, _, rfl⟩ := List.mem_map.mp hf
  have := itr_in (y := y) hp (by omega) hb i
  omega
theorem ring_head {b y p : Int} (hb0 : 1 ≤ b) (n : Nat) : ∀ f r, ringP b y p n = f :: r → f ≠ 0 := by
  intro f r h
  cases n with
  | zero => simp [ringP] at h
  | succ n =>
    have h0 := congrArg (fun l : List Int => l.head?) h
    have h1 : (ringP b y p (n + 1)).head? = some b := by simp [ringP, List.range_succ_eq_map, itr]
    simp only [h1, List.head?_cons, Option.some.injEq] at h0
    omega
set_option maxHeartbeats 8000000 in
theorem ring_con {w : World} {mean : ExcName → Option Value} {mg mb : Str → Option Value} (s : Shared) (b y p : Int) (n : Nat) (t u v : Tok) (hp : 1 < p) (hp2 : p ≤ 13) (hb0 : 0 ≤ b) (hb : b < p) (hy0 : 0 ≤ y) (hy : y < p) (hn : Round b y p n) :
    Con PySem.Challenge.rw_ph0053_01.row.prog w (Mine.hd.heap_39 w.params) Mine.hd.view_39 (looseW Mine.hd.view_39 []) mean mg mb 42 1 s [.int b t, .int y u, .int p v] (fun r h' => ∃ D vs c, r = .ref D ∧ s.heap.get? D = none ∧ h'.get? D = some (listOf vs.toArray c) ∧ IntsAre vs (ringP b y p n)) := by
  w_top off
  k_with_none
  k_fill
  k_dflt (refine' con_enter (binds := [(Str.ofString "begin", .int b t), (Str.ofString "by", .int y u), (Str.ofString "rest", .int p v)]) ?k0 ?k6 ?k7 ?k9 ?kB ?_ ?c2 ?c3 ?c4 ?c5; (case k0 => decide); (case k6 => k_is); (case k7 => k_is); (case k9 => exact BindsTo.of_eq rfl); (case c5 => decide); (case kB => exact locs rfl); (case c2 => exact rfl); (case c3 => exact rfl); (case c4 => exact rfl))
  intro dp un gd outer base L h₁ R' F N B X T hd' hu
  have hM := kstMark
  have hn1 := hn.1
  k_with "exec While Compare cons nil" => refine stop ?_
  k_steps
  refine Stop.go ?_
  have hI : IntsAre [Value.int b t] [b] := .cons b t .nil
  k_with "state" => first | exact inv4_0 (by assumption) | exact (inv4_s hn (by assumption) (by assumption) (by assumption) (by assumption)).1
  k_with "measure" => (have h9 := (inv4_s hn (by assumption) (by assumption) (by assumption) (by assumption)).2; rw [List.length_append, List.length_singleton]; omega)
  k_while (fun _ row => Inv4 b y p n row) (fun _ row => n - row.length) "row"
  k_steps

  dsimp only
  refine done_intro (by assumption) ⟨_, _, _, rfl, News.fresh (by assumption) (List.Mem.head _), News.get (by assumption) (List.Mem.head _), ?_⟩
  rw [← inv4_e hn (by assumption) (by assumption) (by assumption) (by assumption)]
  assumption
/-- every start and factor comes round -/
def roundB (b y p : Nat) : Bool :=
  let n := rlen b y p
  decide (1 ≤ n) && decide (n ≤ 12) && (itr b y p n == (b : Int)) && (List.range n).all (fun j => j == 0 || itr b y p j != (b : Int))
theorem round_all : ([5, 7, 11, 13].all fun p => (List.range p).all fun b => (List.range p).all fun y => b == 0 || y == 0 || roundB b y p) = true := by decide +kernel
theorem round_ok {b y p : Int} (hP : p = 5 ∨ p = 7 ∨ p = 11 ∨ p = 13) (hb0 : 1 ≤ b) (hb : b < p) (hy0 : 1 ≤ y) (hy : y < p) : Round b y p (rlen b y p) := by
  obtain ⟨q, rfl⟩ := Int.eq_ofNat_of_zero_le (show 0 ≤ p by omega)
  obtain ⟨c, rfl⟩ := Int.eq_ofNat_of_zero_le (show 0 ≤ b by omega)
  obtain ⟨z, rfl⟩ := Int.eq_ofNat_of_zero_le (show 0 ≤ y by omega)
  have h1 := List.all_eq_true.mp round_all q (by simp; omega)
  have h2 := List.all_eq_true.mp h1 c (by simp; omega)
  have h3 := List.all_eq_true.mp h2 z (by simp; omega)
  have hc : (c == 0) = false := by simp; omega
  have hz : (z == 0) = false := by simp; omega
  rw [hc, hz] at h3
  simp only [Bool.false_or, roundB, Bool.and_eq_true, decide_eq_true_eq, beq_iff_eq, List.all_eq_true, List.mem_range, Bool.or_eq_true, bne_iff_ne] at h3
  obtain ⟨⟨⟨a1, a2⟩, a3⟩, a4⟩ := h3
  exact ⟨a1, a2, a3, fun j hj hj0 => (a4 j hj).resolve_left hj0⟩
theorem ring_conR {w : World} {mean : ExcName → Option Value} {mg mb : Str → Option Value} (s : Shared) (b y p : Int) (t u v : Tok) (hP : p = 5 ∨ p = 7 ∨ p = 11 ∨ p = 13) (hb0 : 1 ≤ b) (hb : b < p) (hy0 : 1 ≤ y) (hy : y < p) :
    Con PySem.Challenge.rw_ph0053_01.row.prog w (Mine.hd.heap_39 w.params) Mine.hd.view_39 (looseW Mine.hd.view_39 []) mean mg mb 42 1 s [.int b t, .int y u, .int p v] (fun r h' => ∃ D vs c, r = .ref D ∧ s.heap.get? D = none ∧ h'.get? D = some (listOf vs.toArray c) ∧ IntsAre vs (ringP b y p (rlen b y p))) :=
  ring_con s b y p (rlen b y p) t u v (by omega) (by omega) (by omega) hb (by omega) hy (round_ok hP hb0 hb hy0 hy)
theorem rlen_le {b y p : Int} (hP : p = 5 ∨ p = 7 ∨ p = 11 ∨ p = 13) (hb0 : 1 ≤ b) (hb : b < p) (hy0 : 1 ≤ y) (hy : y < p) : 1 ≤ rlen b y p ∧ rlen b y p ≤ 12 := ⟨(round_ok hP hb0 hb hy0 hy).1, (round_ok hP hb0 hb hy0 hy).2.1⟩
/-- one turn of the law's own search for the fewest steps -/
def stF (b g y p : Int) (st k : Int) : Int := if (b * y ^ k.toNat - g).fmod p = 0 ∨ (g * y ^ k.toNat - b).fmod p = 0 then (if k < st then k else st) else st
theorem stF_nil {b g y p N : Int} : N = ([] : List Int).foldl (stF b g y p) N := rfl
theorem stF_yes1 {b g y p : Int} {N st k : Int} {pre : List Int} (h : st = pre.foldl (stF b g y p) N) (h1 : (b * y ^ k.toNat - g).fmod p = 0) : (if k < st then k else st) = (pre ++ [k]).foldl (stF b g y p) N := by
  rw [List.foldl_append, ← h]; simp [stF, h1]
theorem stF_yes2 {b g y p : Int} {N st k : Int} {pre : List Int} (h : st = pre.foldl (stF b g y p) N) (h1 : (g * y ^ k.toNat - b).fmod p = 0) : (if k < st then k else st) = (pre ++ [k]).foldl (stF b g y p) N := by
  rw [List.foldl_append, ← h]; simp [stF, h1]
theorem stF_no {b g y p : Int} {N st k : Int} {pre : List Int} (h : st = pre.foldl (stF b g y p) N) (h1 : (b * y ^ k.toNat - g).fmod p ≠ 0) (h2 : (g * y ^ k.toNat - b).fmod p ≠ 0) : st = (pre ++ [k]).foldl (stF b g y p) N := by
  rw [List.foldl_append, ← h]; simp [stF, h1, h2]
theorem sq_ne {p : Int} (h : 5 ≤ p) : (p - 1) ^ Int.toNat 2 ≠ 0 := by
  have e : (p - 1) ^ Int.toNat 2 = (p - 1) * (p - 1) := by
    show (p - 1) ^ 2 = _
    rw [Int.pow_succ, Int.pow_succ, Int.pow_zero, Int.one_mul]
  rw [e]
  have := Int.mul_pos (show 0 < p - 1 by omega) (show 0 < p - 1 by omega)
  omega
theorem app_small {a b : List Nat} (ha : ∀ c ∈ a, c < 128) (hb : ∀ c ∈ b, c < 128) : ∀ c ∈ a ++ b, c < 128 := by
  intro c hc
  rcases List.mem_append.mp hc with h | h
  · exact ha c h
  · exact hb c h
theorem low_small {a : List Nat} (ha : ∀ c ∈ a, c < 128) : ∀ c ∈ a.map lowc, c < 128 := by
  intro c hc
  obtain ⟨d, hd, rfl⟩ := List.mem_map.mp hc
  have := ha d hd
  unfold lowc
  split <;> omega
theorem lit_A : Str.ofString "A" = St [65] := by decide +kernel
theorem lit_NO : Str.ofString "NO" = St [78, 79] := by decide +kernel
theorem foldl_stF {b g y p : Int} {N : Int} : ∀ (ks : List Int) (st : Int), 0 ≤ st → st ≤ N → (∀ k ∈ ks, 0 ≤ k) → 0 ≤ ks.foldl (stF b g y p) st ∧ ks.foldl (stF b g y p) st ≤ N
  | [], st, h0, h1, _ => ⟨h0, h1⟩
  | k :: ks, st, h0, h1, hk => by
    rw [List.foldl_cons]
    have hk0 := hk k (by simp)
    have : 0 ≤ stF b g y p st k ∧ stF b g y p st k ≤ N := by
      unfold stF
      split
      · split <;> omega
      · omega
    exact foldl_stF ks _ this.1 this.2 fun q hq => hk q (by simp [hq])
theorem st_range {b g y p : Int} {n m : Nat} {st : Int} (h : st = (rangeKs 0 m).foldl (stF b g y p) (n : Int)) : 0 ≤ st ∧ st ≤ n := by
  rw [h]
  refine foldl_stF _ _ (by omega) (by omega) fun k hk => ?_
  have := (mem_rangeKs hk).1
  omega
/-- a ring's letters -/
abbrev wordR (b y p : Int) : List Nat := (ringP b y p (rlen b y p)).map fun f => (65 + f).toNat
/-! law 1 on natural numbers -/
def itN (b y p i : Nat) : Nat := b * y ^ i % p
theorem itr_nat {b y p : Nat} (hb : b < p) : ∀ i, itr (b : Int) (y : Int) (p : Int) i = ((itN b y p i : Nat) : Int)
  | 0 => by simp [itr, itN, Nat.mod_eq_of_lt hb]
  | i + 1 => by
    show (itr (b : Int) (y : Int) (p : Int) i * (y : Int)).fmod p = _
    rw [itr_nat hb i, Int.fmod_eq_emod_of_nonneg _ (by omega)]
    have e : (((itN b y p i : Nat) : Int) * (y : Int)) % (p : Int) = (((itN b y p i * y) % p : Nat) : Int) := by simp
    rw [e]
    congr 1
    unfold itN
    rw [Nat.mod_mul_mod, Nat.pow_succ, Nat.mul_assoc]
def rlN (b y p : Nat) : Nat := (([1, 2, 3, 4, 5, 6, 7, 8, 9, 10, 11, 12] : List Nat).find? fun j => Nat.beq (itN b y p j) b).getD 1
theorem rlen_nat {b y p : Nat} (hb : b < p) : rlen (b : Int) (y : Int) (p : Int) = rlN b y p := by
  unfold rlen rlN
  have e : (List.range 12).map (· + 1) = [1, 2, 3, 4, 5, 6, 7, 8, 9, 10, 11, 12] := by decide
  rw [e]
  congr 2
  funext j
  rw [itr_nat hb j]
  by_cases h : itN b y p j = b
  · simp [h]
  · have h2 : Nat.beq (itN b y p j) b = false := by
      cases q : Nat.beq (itN b y p j) b with
      | false => rfl
      | true => exact absurd (Nat.eq_of_beq_eq_true q) h
    rw [h2]
    simp only [beq_eq_false_iff_ne]
    omega
def woN (b y p : Nat) : List Nat := (List.range (rlN b y p)).map fun i => 65 + itN b y p i
theorem word_nat {b y p : Nat} (hb : b < p) : wordR (b : Int) (y : Int) (p : Int) = woN b y p := by
  unfold wordR woN ringP
  rw [rlen_nat hb, List.map_map]
  refine List.map_congr_left fun i _ => ?_
  simp only [Function.comp_apply, itr_nat hb i]
  omega
def stN (b g y p st k : Nat) : Nat := if Nat.beq (b * y ^ k % p) g = true ∨ Nat.beq (g * y ^ k % p) b = true then (if k < st then k else st) else st
theorem fmod_zero {a g p : Nat} (hp : 0 < p) (hg : g < p) : (((a : Int) - (g : Int)).fmod (p : Int) = 0) ↔ a % p = g := by
  rw [Int.fmod_eq_emod_of_nonneg _ (by omega)]
  constructor
  · intro h
    have h1 : ((a : Int)) % (p : Int) = (g : Int) % (p : Int) := Int.emod_eq_emod_iff_emod_sub_eq_zero.mpr h
    have h2 : (g : Int) % (p : Int) = g := Int.emod_eq_of_lt (by omega) (by omega)
    rw [h2] at h1
    omega
  · intro h
    refine Int.emod_eq_emod_iff_emod_sub_eq_zero.mp ?_
    have h2 : (g : Int) % (p : Int) = g := Int.emod_eq_of_lt (by omega) (by omega)
    rw [h2]
    omega
theorem stF_nat {b g y p st k : Nat} (hb : b < p) (hg : g < p) : stF (b : Int) (g : Int) (y : Int) (p : Int) (st : Int) (k : Int) = ((stN b g y p st k : Nat) : Int) := by
  have hp : 0 < p := by omega
  have e1 : ((b : Int) * (y : Int) ^ (k : Int).toNat - (g : Int)).fmod (p : Int) = 0 ↔ Nat.beq (b * y ^ k % p) g = true := by
    have : ((b : Int) * (y : Int) ^ (k : Int).toNat) = ((b * y ^ k : Nat) : Int) := by simp
    rw [this, fmod_zero hp hg, Nat.beq_eq]
  have e2 : ((g : Int) * (y : Int) ^ (k : Int).toNat - (b : Int)).fmod (p : Int) = 0 ↔ Nat.beq (g * y ^ k % p) b = true := by
    have : ((g : Int) * (y : Int) ^ (k : Int).toNat) = ((g * y ^ k : Nat) : Int) := by simp
    rw [this, fmod_zero hp hb, Nat.beq_eq]
  unfold stF stN
  simp only [e1, e2]
  split
  · split <;> split <;> omega
  · rfl
def foN (b g y p n : Nat) : Nat := (List.range n).foldl (stN b g y p) n
theorem fold_nat {b g y p : Nat} (hb : b < p) (hg : g < p) : ∀ (ks : List Nat) (st : Nat), (ks.map fun (k : Nat) => (k : Int)).foldl (stF (b : Int) (g : Int) (y : Int) (p : Int)) (st : Int) = ((ks.foldl (stN b g y p) st : Nat) : Int)
  | [], _ => rfl
  | k :: ks, st => by
    simp only [List.map_cons, List.foldl_cons]
    rw [stF_nat hb hg, fold_nat hb hg ks]
theorem rangeKs_nat (n : Nat) : rangeKs 0 n = (List.range n).map fun (k : Nat) => (k : Int) := by
  simp [rangeKs]
theorem st_nat {b g y p : Nat} (hb : b < p) (hg : g < p) (n : Nat) : (rangeKs 0 n).foldl (stF (b : Int) (g : Int) (y : Int) (p : Int)) (n : Int) = ((foN b g y p n : Nat) : Int) := by
  rw [rangeKs_nat, fold_nat hb hg]
  rfl
/-- what is due -/
def dueN (b g y p : Nat) : Nat := if 4 * foN b g y p (rlN b y p) < 2 * rlN b y p then 4 * foN b g y p (rlN b y p) else 2 * rlN b y p
def smaN (b g y p : Nat) : Nat := if rlN b y p + 3 * foN b g y p (rlN b y p) < 2 * rlN b y p then rlN b y p + 3 * foN b g y p (rlN b y p) else 2 * rlN b y p
noncomputable def chkN (b g y p : Nat) : Bool :=
  Nat.beq (rlN b y p) (rlN g y p) && Nat.beq (dueN b g y p) (dueN g b y p) && Nat.beq (levF (woN b y p) (woN g y p)) (dueN b g y p) && Nat.beq (levF (woN b y p) ((woN g y p).map lowF)) (smaN b g y p)
noncomputable def chkY (y p : Nat) : Bool := (List.range p).all fun b => (List.range p).all fun g => b == 0 || g == 0 || chkN b g y p
theorem chk_5_1 : chkY 1 5 = true := by decide +kernel
theorem chk_5_2 : chkY 2 5 = true := by decide +kernel
theorem chk_5_3 : chkY 3 5 = true := by decide +kernel
theorem chk_5_4 : chkY 4 5 = true := by decide +kernel
theorem chk_7_1 : chkY 1 7 = true := by decide +kernel
theorem chk_7_2 : chkY 2 7 = true := by decide +kernel
theorem chk_7_3 : chkY 3 7 = true := by decide +kernel
theorem chk_7_4 : chkY 4 7 = true := by decide +kernel
theorem chk_7_5 : chkY 5 7 = true := by decide +kernel
theorem chk_7_6 : chkY 6 7 = true := by decide +kernel
theorem chk_11_1 : chkY 1 11 = true := by decide +kernel
theorem chk_11_2 : chkY 2 11 = true := by decide +kernel
theorem chk_11_3 : chkY 3 11 = true := by decide +kernel
theorem chk_11_4 : chkY 4 11 = true := by decide +kernel
theorem chk_11_5 : chkY 5 11 = true := by decide +kernel
theorem chk_11_6 : chkY 6 11 = true := by decide +kernel
theorem chk_11_7 : chkY 7 11 = true := by decide +kernel
theorem chk_11_8 : chkY 8 11 = true := by decide +kernel
theorem chk_11_9 : chkY 9 11 = true := by decide +kernel
theorem chk_11_10 : chkY 10 11 = true := by decide +kernel
theorem chk_13_1 : chkY 1 13 = true := by decide +kernel
theorem chk_13_2 : chkY 2 13 = true := by decide +kernel
theorem chk_13_3 : chkY 3 13 = true := by decide +kernel
theorem chk_13_4 : chkY 4 13 = true := by decide +kernel
theorem chk_13_5 : chkY 5 13 = true := by decide +kernel
theorem chk_13_6 : chkY 6 13 = true := by decide +kernel
theorem chk_13_7 : chkY 7 13 = true := by decide +kernel
theorem chk_13_8 : chkY 8 13 = true := by decide +kernel
theorem chk_13_9 : chkY 9 13 = true := by decide +kernel
theorem chk_13_10 : chkY 10 13 = true := by decide +kernel
theorem chk_13_11 : chkY 11 13 = true := by decide +kernel
theorem chk_13_12 : chkY 12 13 = true := by decide +kernel
theorem chk_any {y p : Nat} (hp : p = 5 ∨ p = 7 ∨ p = 11 ∨ p = 13) (hy0 : 1 ≤ y) (hy : y < p) : chkY y p = true := by
  rcases hp with rfl | rfl | rfl | rfl
  · have h : y = 1 ∨ y = 2 ∨ y = 3 ∨ y = 4 := by omega
    rcases h with rfl | rfl | rfl | rfl
    · exact chk_5_1
    · exact chk_5_2
    · exact chk_5_3
    · exact chk_5_4
  · have h : y = 1 ∨ y = 2 ∨ y = 3 ∨ y = 4 ∨ y = 5 ∨ y = 6 := by omega
    rcases h with rfl | rfl | rfl | rfl | rfl | rfl
    · exact chk_7_1
    · exact chk_7_2
    · exact chk_7_3
    · exact chk_7_4
    · exact chk_7_5
    · exact chk_7_6
  · have h : y = 1 ∨ y = 2 ∨ y = 3 ∨ y = 4 ∨ y = 5 ∨ y = 6 ∨ y = 7 ∨ y = 8 ∨ y = 9 ∨ y = 10 := by omega
    rcases h with rfl | rfl | rfl | rfl | rfl | rfl | rfl | rfl | rfl | rfl
    · exact chk_11_1
    · exact chk_11_2
    · exact chk_11_3
    · exact chk_11_4
    · exact chk_11_5
    · exact chk_11_6
    · exact chk_11_7
    · exact chk_11_8
    · exact chk_11_9
    · exact chk_11_10
  · have h : y = 1 ∨ y = 2 ∨ y = 3 ∨ y = 4 ∨ y = 5 ∨ y = 6 ∨ y = 7 ∨ y = 8 ∨ y = 9 ∨ y = 10 ∨ y = 11 ∨ y = 12 := by omega
    rcases h with rfl | rfl | rfl | rfl | rfl | rfl | rfl | rfl | rfl | rfl | rfl | rfl
    · exact chk_13_1
    · exact chk_13_2
    · exact chk_13_3
    · exact chk_13_4
    · exact chk_13_5
    · exact chk_13_6
    · exact chk_13_7
    · exact chk_13_8
    · exact chk_13_9
    · exact chk_13_10
    · exact chk_13_11
    · exact chk_13_12
theorem chk_at {b g y p : Nat} (hp : p = 5 ∨ p = 7 ∨ p = 11 ∨ p = 13) (hy0 : 1 ≤ y) (hy : y < p) (hb0 : 1 ≤ b) (hb : b < p) (hg0 : 1 ≤ g) (hg : g < p) :
    rlN b y p = rlN g y p ∧ dueN b g y p = dueN g b y p ∧ levS (woN b y p) (woN g y p) = dueN b g y p ∧ levS (woN b y p) ((woN g y p).map lowc) = smaN b g y p := by
  have h1 := List.all_eq_true.mp (chk_any hp hy0 hy) b (List.mem_range.mpr hb)
  have h2 := List.all_eq_true.mp h1 g (List.mem_range.mpr hg)
  have hb' : (b == 0) = false := by simp; omega
  have hg' : (g == 0) = false := by simp; omega
  rw [hb', hg'] at h2
  have e : (woN g y p).map lowF = (woN g y p).map lowc := List.map_congr_left fun c _ => lowF_eq c
  simp only [Bool.false_or, chkN, Bool.and_eq_true, Nat.beq_eq, levF_eq, e] at h2
  exact ⟨h2.1.1.1, h2.1.1.2, h2.1.2, h2.2⟩
/-! words with the same letters ahead and behind -/
theorem cpl_app_same : ∀ (t a b : List Nat), cpl (t ++ a) (t ++ b) = t.length + cpl a b
  | [], a, b => by simp
  | x :: t, a, b => by
    simp only [List.cons_append, cpl, if_true, List.length_cons, cpl_app_same t a b]
    omega
theorem cpl_app_behind : ∀ (a b t : List Nat), a.length = b.length → a ≠ b → cpl (a ++ t) (b ++ t) = cpl a b
  | [], [], _, _, h => absurd rfl h
  | [], _ :: _, _, h, _ => by simp at h
  | _ :: _, [], _, h, _ => by simp at h
  | x :: a, y :: b, t, hl, hne => by
    simp only [List.cons_append, cpl]
    by_cases h : x = y
    · rw [if_pos h, if_pos h, cpl_app_behind a b t (by simpa using hl) (fun e => hne (by rw [h, e]))]
    · rw [if_neg h, if_neg h]
theorem levS_pad {a b : List Nat} (c : List Nat) (t : List Nat) (hl : a.length = b.length) : levS (c ++ a ++ t) (c ++ b ++ t) = levS a b := by
  unfold levS
  by_cases h : a = b
  · subst h; simp
  · have h' : ¬ c ++ a ++ t = c ++ b ++ t := fun e => h (List.append_cancel_left (List.append_cancel_right e))
    rw [if_neg h, if_neg h']
    have e1 : cpl (c ++ a ++ t) (c ++ b ++ t) = c.length + cpl a b := by
      rw [List.append_assoc, List.append_assoc, cpl_app_same, cpl_app_behind a b t hl h]
    have hc := cpl_le a b
    have e2 : (c ++ a ++ t).drop (c.length + cpl a b) = a.drop (cpl a b) ++ t := by
      rw [List.append_assoc, ← List.drop_drop, List.drop_left, List.drop_append_of_le_length hc.1]
    have e3 : (c ++ b ++ t).drop (c.length + cpl a b) = b.drop (cpl a b) ++ t := by
      rw [List.append_assoc, ← List.drop_drop, List.drop_left, List.drop_append_of_le_length hc.2]
    simp only [e1, e2, e3]
    generalize a.drop (cpl a b) = a1
    generalize b.drop (cpl a b) = b1
    have e4 : cutEnd (a1 ++ t) (b1 ++ t) = t.length + cutEnd a1 b1 := by
      unfold cutEnd
      rw [List.reverse_append, List.reverse_append, cpl_app_same, List.length_reverse]
    have hq := cutEnd_le a1 b1
    rw [e4]
    have e5 : ∀ (u : List Nat) (q : Nat), q ≤ u.length → (u ++ t).take ((u ++ t).length - (t.length + q)) = u.take (u.length - q) := by
      intro u q hq
      have : (u ++ t).length - (t.length + q) = u.length - q := by rw [List.length_append]; omega
      rw [this, List.take_append_of_le_length (by omega)]
    rw [e5 a1 _ hq.1, e5 b1 _ hq.2]
theorem tell {a b : List Nat} {d : Nat} {m : Int} (hl : a.length = b.length) (hd : levS a b = d) (hm : m < 1000) : lev a b m = d ∨ (lev a b m = m + 1 ∧ m + 1 ≤ d) := by
  have := lev_or (a := a) (b := b) (m := m) (by omega) (by omega)
  rwa [hd] at this
theorem tell_eq {a b : List Nat} {d : Nat} {z : Int} (hl : a.length = b.length) (hd : levS a b = d) (hd2 : d ≤ 100) (h0 : -1 ≤ z) (h1 : z ≤ 1) : lev a b (d + z) = d := by
  rcases tell (m := d + z) hl hd (by omega) with h | ⟨h, h'⟩ <;> omega
theorem dueN_le {b g y p : Nat} : dueN b g y p ≤ 2 * rlN b y p ∧ smaN b g y p ≤ 2 * rlN b y p := by
  unfold dueN smaN
  constructor <;> split <;> omega
/-- all that the law asks of one start, goal and factor -/
theorem law1_pure {b g y p st : Int} (hP : p = 5 ∨ p = 7 ∨ p = 11 ∨ p = 13) (hb0 : 1 ≤ b) (hb : b < p) (hg0 : 1 ≤ g) (hg : g < p) (hy0 : 1 ≤ y) (hy : y < p)
    (hst : st = (rangeKs 0 (((rlen b y p : Nat) : Int) - 0).toNat).foldl (stF b g y p) ((rlen b y p : Nat) : Int)) :
    (∀ z, -1 ≤ z → z ≤ 1 → lev (wordR b y p) (wordR g y p) ((if 4 * st < 2 * ((rlen b y p : Nat) : Int) then 4 * st else 2 * ((rlen b y p : Nat) : Int)) + z) = if 4 * st < 2 * ((rlen b y p : Nat) : Int) then 4 * st else 2 * ((rlen b y p : Nat) : Int)) ∧
    (∀ z, -1 ≤ z → z ≤ 1 → lev ([65] ++ wordR b y p ++ [78, 79]) ([65] ++ wordR g y p ++ [78, 79]) ((if 4 * st < 2 * ((rlen b y p : Nat) : Int) then 4 * st else 2 * ((rlen b y p : Nat) : Int)) + z) = if 4 * st < 2 * ((rlen b y p : Nat) : Int) then 4 * st else 2 * ((rlen b y p : Nat) : Int)) ∧
    (∀ z, -1 ≤ z → z ≤ 1 → lev (wordR b y p) ((wordR g y p).map lowc) ((if ((rlen b y p : Nat) : Int) + 3 * st < 2 * ((rlen b y p : Nat) : Int) then ((rlen b y p : Nat) : Int) + 3 * st else 2 * ((rlen b y p : Nat) : Int)) + z) = if ((rlen b y p : Nat) : Int) + 3 * st < 2 * ((rlen b y p : Nat) : Int) then ((rlen b y p : Nat) : Int) + 3 * st else 2 * ((rlen b y p : Nat) : Int)) ∧
    (∀ m, m < (if 4 * st < 2 * ((rlen b y p : Nat) : Int) then 4 * st else 2 * ((rlen b y p : Nat) : Int)) → m < lev (wordR g y p) (wordR b y p) m) := by
  have hn := rlen_le hP hb0 hb hy0 hy
  obtain ⟨q, rfl⟩ := Int.eq_ofNat_of_zero_le (show 0 ≤ p by omega)
  obtain ⟨c, rfl⟩ := Int.eq_ofNat_of_zero_le (show 0 ≤ b by omega)
  obtain ⟨e, rfl⟩ := Int.eq_ofNat_of_zero_le (show 0 ≤ g by omega)
  obtain ⟨z, rfl⟩ := Int.eq_ofNat_of_zero_le (show 0 ≤ y by omega)
  have hc : c < q := by omega
  have he : e < q := by omega
  have hq : q = 5 ∨ q = 7 ∨ q = 11 ∨ q = 13 := by omega
  have k1 := chk_at (b := c) (g := e) (y := z) hq (by omega) (by omega) (by omega) hc (by omega) he
  have k2 := chk_at (b := e) (g := c) (y := z) hq (by omega) (by omega) (by omega) he (by omega) hc
  have hl : (woN c z q).length = (woN e z q).length := by simp only [woN, List.length_map, List.length_range]; exact k1.1
  have hdl := dueN_le (b := c) (g := e) (y := z) (p := q)
  have hrl : rlen (c : Int) (z : Int) (q : Int) = rlN c z q := rlen_nat hc
  rw [hrl] at hn hst ⊢
  have e0 : (((rlN c z q : Nat) : Int) - 0).toNat = rlN c z q := by omega
  rw [e0, st_nat hc he] at hst
  have ed : (if 4 * st < 2 * ((rlN c z q : Nat) : Int) then 4 * st else 2 * ((rlN c z q : Nat) : Int)) = ((dueN c e z q : Nat) : Int) := by
    rw [hst]; unfold dueN; split <;> split <;> omega
  have es : (if ((rlN c z q : Nat) : Int) + 3 * st < 2 * ((rlN c z q : Nat) : Int) then ((rlN c z q : Nat) : Int) + 3 * st else 2 * ((rlN c z q : Nat) : Int)) = ((smaN c e z q : Nat) : Int) := by
    rw [hst]; unfold smaN; split <;> split <;> omega
  rw [ed, es, word_nat hc, word_nat he]
  refine ⟨fun u h0 h1 => tell_eq hl k1.2.2.1 (by omega) h0 h1, fun u h0 h1 => tell_eq (by simp [hl]) (by rw [levS_pad _ _ hl]; exact k1.2.2.1) (by omega) h0 h1, fun u h0 h1 => tell_eq (by simp [hl]) k1.2.2.2 (by omega) h0 h1, fun m hm => ?_⟩
  have h3 := k2.2.2.1
  rw [← k1.2.1] at h3
  rcases tell (m := m) hl.symm h3 (by omega) with h | ⟨h, _⟩ <;> omega
/-- behind a statement that leaves all as it was -/
def AfterS (h₀ : Heap) (L : Addr) (m : Str → Option Value) (news : List (Addr × Obj)) (s : Shared) (f : Flow) (s' : Shared) : Prop :=
  f = .next ∧ ∃ h' tk', s' = { s with heap := h', toks := tk' } ∧ Fr h₀ L h' m ∧ News h₀ L h' news
theorem cut_same {M : Model} {A : Around} {E : Value → Shared → Prop} {tree : Sem Flow} {Q : Flow → Shared → Prop} {s : Shared} {h₀ : Heap} {L : Addr} {m : Str → Option Value} {news : List (Addr × Obj)}
    (_F : Fr h₀ L s.heap m) (_N : News h₀ L s.heap news) (walk : wpAny M A tree (AfterS h₀ L m news s) E s)
    (h : ∀ h' tk', Fr h₀ L h' m → News h₀ L h' news → Q .next { s with heap := h', toks := tk' }) : wpAny M A tree Q E s := by
  refine wpAny_mono walk (fun f s' hq => ?_) fun _ _ x => x
  obtain ⟨rfl, h', tk', rfl, F', N'⟩ := hq
  exact h h' tk' F' N'
theorem afterS_one {h₀ : Heap} {L : Addr} {m : Str → Option Value} {news news' : List (Addr × Obj)} {s : Shared} {h' : Heap} {tk' : Nat}
    (F : Fr h₀ L h' m) (N : News h₀ L h' news') (hn : ∀ p ∈ news, p ∈ news') : AfterS h₀ L m news s .next { s with heap := h', toks := tk' } :=
  ⟨rfl, h', tk', rfl, F, fun p hp => N p (hn p hp)⟩
theorem due_le {st n : Int} (h : n ≤ 12) : (if 4 * st < 2 * n then 4 * st else 2 * n) ≤ 1000 := by split <;> omega
set_option maxHeartbeats 8000000 in
theorem law1 : PySem.Challenge.rw_ph0053_01.Holds := Mine.hd (by
  k_with_none
  k_go0
  all_goals try k_fold
  have hM := kstMark
  have hA := markA
  k_with "exec Assign cons BinOp" => ((rename MarkA => hA'); refine stop ?_)
  k_with "exec Assign cons Subscript" => ((rename MarkA => hA'); refine stop ?_)
  k_with "exec For Name BinOp cons nil" => refine stop ?_
  k_steps
  refine Stop.go (cut_ex (Str.ofString "first") (fun _ => True) (by assumption) (by assumption) ?_ ?_)
  · clear hA'
    k_steps
    all_goals exact afterX_one (by assumption) (by assumption) (fun _ h => nomatch h) trivial
  intro first tf hf tkf _ Ff Nf
  k_steps
  refine Stop.go (cut_ex (Str.ofString "prime") (fun p => p = 5 ∨ p = 7 ∨ p = 11 ∨ p = 13) (by assumption) (by assumption) ?_ ?_)
  · clear hA'
    k_steps
    all_goals exact afterX_one (by assumption) (by assumption) (fun _ h => nomatch h) (by first | omega | decide | simp)
  intro p tp hp tkp hP Fp Np
  have hp5 : 5 ≤ p := by omega
  have hp13 : p ≤ 13 := by omega
  k_steps
  refine Stop.go (cut_ex (Str.ofString "factor") (fun y => 1 ≤ y ∧ y < p) (by assumption) (by assumption) ?_ ?_)
  · clear hA'
    k_steps
    have hq := fmod_in (first.fdiv 4) (show 0 < p - 1 by omega)
    exact afterX_one (by assumption) (by assumption) (fun _ h => nomatch h) (by omega)
  intro y ty hy tky hY Fy Ny
  clear hA'
  k_steps
  refine Stop.go ?_
  (with_unfolding_all refine' For_invVF Fy ?k1 ?k2 ?_; (case k1 => exact rfl); (case k2 => exact rfl))
  have hC := markC
  k_with "pyIter ref" => ((rename MarkC => hC'); refine stop ?_)
  k_steps
  clear hC'
  rename IntsAre _ ([44] ++ _) => hxs
  refine Stop.go ?_
  rename News _ _ _ _ => hNl
  refine kst_listL (σ := Unit) (fun _ => [(_, listOf _ 0)]) (fun _ => []) (fun _ => True) [Str.ofString "start", Str.ofString "goal", Str.ofString "ring", Str.ofString "target", Str.ofString "word", Str.ofString "other", Str.ofString "size", Str.ofString "steps", Str.ofString "k", Str.ofString "power", Str.ofString "due", Str.ofString "small", Str.ofString "shift", Str.ofString "told"] (fun _ _ => True) () rfl (fun _ => List.Mem.head _) hxs (by assumption) (kst_newsOf hNl (by intro q hq; rw [List.mem_singleton.mp hq]; exact List.Mem.head _)) trivial (fun _ h => nomatch h) trivial ?_ ?_
  · intro _ pre post x t u h tk own hns hmem hoff _ _ F N
    dsimp only [kstB] at F
    clear hxs hNl hns hmem
    have hA := markA
    k_steps
    refine Stop.go (cut_ex (Str.ofString "start") (fun b => 1 ≤ b ∧ b < p) (by assumption) (by assumption) ?_ ?_)
    · clear hA'
      k_steps
      have hq := fmod_in x (show 0 < p - 1 by omega)
      exact afterX_one (by assumption) (by assumption) (fun _ h => h) (by omega)
    intro b tb hb tkb hb0 Fb Nb
    k_steps
    refine Stop.go (cut_ex (Str.ofString "goal") (fun g => 1 ≤ g ∧ g < p) (by assumption) (by assumption) ?_ ?_)
    · clear hA'
      k_steps
      have hq := fmod_in (x.fdiv (p - 1)) (show 0 < p - 1 by omega)
      exact afterX_one (by assumption) (by assumption) (fun _ h => h) (by omega)
    intro g tg hg tkg hg0 Fg Ng
    clear hA'
    (try (rename Dflts _ _ _ _ _ _ => h9; clear h9))
    (try (rename Glob _ _ _ _ _ _ _ _ => h9; clear h9))
    (try (rename BMod _ _ _ _ _ => h9; clear h9))
    (try (rename TopE _ _ _ _ => h9; clear h9))
    (try (rename TopW _ _ _ => h9; clear h9))
    (try (rename LooseAre _ _ _ => h9; clear h9))
    (try (rename ReadsAll _ _ _ _ => h9; clear h9))
    (try (rename Well _ _ _ _ => h9; clear h9))
    (try (rename Reads _ _ _ _ => h9; clear h9))
    (try (rename ReadsAllW _ _ _ _ _ _ => h9; clear h9))
    (try (rename Tables _ _ _ _ => h9; clear h9))
    (try (rename Flt.MathXP _ _ _ => h9; clear h9))
    (try (rename Ground _ _ _ _ _ _ _ _ _ => h9; clear h9))
    (try clear Fb Nb); (try clear F N); (try clear Fp Np); (try clear Ff Nf)
    have hn0 := rlen_le hP hb0.1 hb0.2 hY.1 hY.2
    have hn1 := rlen_le hP hg0.1 hg0.2 hY.1 hY.2
    k_with "call ref" => first
      | (k_dflt (refine' con_list (ring_conR _ _ _ _ _ _ _ hP ?z3 ?z4 ?z5 ?z6) ?zB ?zF ?zX ?zN ?zT ?zf ?zk ?zr ?zu ?_); (case z3 => omega); (case z4 => omega); (case z5 => omega); (case z6 => omega); (case zB => k_asm); (case zF => k_asm); (case zX => k_asm); (case zN => k_asm); (case zT => k_asm); (case zf => k_dflt exact rfl); (case zk => k_dflt exact rfl); (case zr => ktr_room); (case zu => ktr_units); intro D' vs' c' h' tk' hI' hne' F' N')
      | (k_dflt (refine' con_use (word_con _ _ _ _ _ _ ?z1 ?z2 ?z3 ?z4 ?z5 ?z6) ?zB ?zF ?zX ?zN ?zT ?zf ?zk ?zr ?zu ?_); (case z1 => k_dflt (exact News.isList (by k_asm) (by k_mem))); (case z2 => assumption); (case z3 => exact ring_figs (by omega) (by omega) (by omega) (by omega) _); (case z4 => exact ring_head (by omega) _); (case z5 => (rw [ringP_len]; exact Nat.le_trans (rlen_le hP (by omega) (by omega) (by omega) (by omega)).2 (by decide))); (case z6 => decide); (case zB => k_asm); (case zF => k_asm); (case zX => k_asm); (case zN => k_asm); (case zT => k_asm); (case zf => k_dflt exact rfl); (case zk => k_dflt exact rfl); (case zr => ktr_room); (case zu => ktr_units); rintro _ _ _ ⟨_, rfl⟩ _ _ _)
    have hB := markB
    k_with "exec If Compare cons nil" => ((rename MarkB => hB'); refine stop ?_)
    k_steps
    refine Stop.go ?_
    clear hB'
    k_with "call ref" => 
      (k_dflt (refine' con_use (letters_con _ _ _ _ ?z1 ?z2 ?z3 ?z5) ?zB ?zF ?zX ?zN ?zT ?zf ?zk ?zr ?zu ?_); (case z1 => k_dflt (exact News.isList (by k_asm) (by k_mem))); (case z2 => assumption); (case z3 => exact ring_figs (by omega) (by omega) (by omega) (by omega) _); (case z5 => (rw [ringP_len]; omega)); (case zB => k_asm); (case zF => k_asm); (case zX => k_asm); (case zN => k_asm); (case zT => k_asm); (case zf => k_dflt exact rfl); (case zk => k_dflt exact rfl); (case zr => ktr_room); (case zu => ktr_units); rintro _ _ _ ⟨_, rfl⟩ _ _ _)
    have hWs := up_small (ring_figs (y := y) (p := p) (b := b) (by omega) (by omega) (by omega) (by omega) (rlen b y p))
    have hOs := up_small (ring_figs (y := y) (p := p) (b := g) (by omega) (by omega) (by omega) (by omega) (rlen g y p))
    k_with "compareOp NotEq ref ref" => (k_dflt (refine w_ne_texts (News.get (by k_asm) (by k_mem)) (News.get (by k_asm) (by k_mem)) (by assumption) (by assumption) (by ke_room) ?_))
    have hC := markC
    k_with "exec For Name Call cons nil" => ((rename MarkC => hC'); refine stop ?_)
    k_with "call builtin:len" => (k_dflt (refine w_llen (News.isList (by k_asm) (by k_mem)) (by assumption) (ringP_len _ _ _ _) (by omega) ?_); intro _)
    k_steps
    refine Stop.go ?_
    clear hC'
    k_with "exec For Name Call cons nil" => kpr_for
    k_with "pyIter ref" => (k_of "k" => k_state (fun pre steps => steps = pre.foldl (stF b g y p) (rlen b y p : Nat)) "steps")
    k_with "state" => first | exact stF_nil | exact stF_yes1 (by assumption) (by assumption) | exact stF_yes2 (by assumption) (by assumption) | exact stF_no (by assumption) (by assumption) (by assumption)
    have hA := markA
    k_steps
    · refine Stop.go ?_
      clear hA'
      k_with "binaryOp Pow int int" => (with_reducible refine pow_int_small ?_ ?_ ?_ ?_; omega; omega; omega)
      k_with "binaryOp Mult int int" => (refine PyProof.Rows.mul_int ?_ (IntMulOk.of_left (small_bits (by omega) (by omega))))
      k_steps
    refine Stop.go (cut_ex (Str.ofString "shift") (fun z => -1 ≤ z ∧ z ≤ 1) (by assumption) (by assumption) ?_ ?_)
    · clear hA'
      k_with "binaryOp Pow int int" => (with_reducible refine pow_int_small ?_ ?_ ?_ ?_; omega; omega; omega)
      k_steps
      · exact absurd (by assumption) (sq_ne hp5)
      · have hq := fmod_in (x.fdiv ((p - 1) ^ Int.toNat 2)) (show (0 : Int) < 3 by decide)
        exact afterX_one (by assumption) (by assumption) (fun _ h => h) (by omega)
    intro sf tsf hsf tksf hsf0 Fsf Nsf
    clear hA'
    rename (_ = List.foldl (stF b g y p) _ _) => hst
    have hst1 := st_range hst
    obtain ⟨pA, pB, pC, pD⟩ := law1_pure hP hb0.1 hb0.2 hg0.1 hg0.2 hY.1 hY.2 hst
    have hWl : (wordR b y p).length ≤ 12 := by rw [List.length_map, ringP_len]; omega
    have hOl : (wordR g y p).length ≤ 12 := by rw [List.length_map, ringP_len]; omega
    k_with "binaryOp Add str str" => (refine' w_add ?zx ?zy ?zz ?_; (case zx => first | exact lit_A | k_dflt exact rfl); (case zy => first | exact lit_NO | k_dflt exact rfl); (case zz => ((try simp only [List.length_append, List.length_cons, List.length_nil, List.length_map, ringP_len]); omega)); intro _ _)
    k_with "call builtin:str.lower" => (refine' w_low ?zz ?zc ?_; (case zz => ((try simp only [List.length_map, ringP_len]); omega)); (case zc => assumption); intro _)
    k_with "call ref" => (k_dflt (refine' con_use (con_int (lev_con _ _ _ _ _ _ _ ?za ?zb ?zc ?zd ?ze ?zg) ?zV) ?zB ?zF ?zX ?zN ?zT ?zf ?zk ?zr ?zu ?_); (case zV => first | exact pA _ hsf0.1 hsf0.2 | k_dflt exact pB _ hsf0.1 hsf0.2 | k_dflt exact pC _ hsf0.1 hsf0.2); (case za => first | assumption | k_dflt exact app_small (a := [65]) (by decide) (app_small (by assumption) (by decide)) | exact low_small (by assumption)); (case zb => first | assumption | k_dflt exact app_small (a := [65]) (by decide) (app_small (by assumption) (by decide)) | exact low_small (by assumption)); (case zc => ((try simp only [List.length_append, List.length_cons, List.length_nil, List.length_map, ringP_len]); omega)); (case zd => ((try simp only [List.length_append, List.length_cons, List.length_nil, List.length_map, ringP_len]); omega)); (case ze => (first | omega | (split <;> omega))); (case zg => (first | omega | (split <;> omega))); (case zB => k_asm); (case zF => k_asm); (case zX => k_asm); (case zN => k_asm); (case zT => k_asm); (case zf => k_dflt exact rfl); (case zk => k_dflt exact rfl); (case zr => ktr_room); (case zu => ktr_units); rintro _ _ _ ⟨_, rfl⟩ _ _ _)
    have hB := markB
    k_with "exec If BoolOp cons nil" => ((rename MarkB => hB'); refine stop ?_)
    k_steps
    refine Stop.go ?_
    clear hB'
    (try clear Fsf Nsf); (try clear Fg Ng)
    rename Fr _ _ _ _ => hFq
    rename News _ _ _ _ => hNq
    k_with "CompEnd" => (k_dflt (refine LCg.CompEnd.intro (by assumption) (by assumption) _ (fun _ h => h) (by assumption) (by lcg_src) ?_))
    k_with "compareOp NotEq ref ref" => (k_dflt (refine w_ne_ints (News.isList (by k_asm) (by k_mem)) (News.isList (by k_asm) (by k_mem)) (.cons _ _ (.cons _ _ (.cons _ _ .nil))) (.cons _ _ (.cons _ _ (.cons _ _ .nil))) (by ke_room) ?_))
    refine cut_same hFq hNq ?_ ?_
    · k_steps
      exact afterS_one (by assumption) (by assumption) (fun _ h => .tail _ (.tail _ (.tail _ h)))
    clear hFq hNq
    intro h5 tk5 F5 N5
    have hB := markB
    k_with "exec If BoolOp cons nil" => ((rename MarkB => hB'); refine stop ?_)
    k_steps
    refine Stop.go ?_
    clear hB'
    have hn0i : ((rlen b y p : Nat) : Int) ≤ 12 := by omega
    k_with "call ref" => (have hq9 := fmod_in x (by assumption); have hD9 := pD _ hq9.2; k_dflt (refine' con_use (lev_con _ _ _ _ _ _ _ ?za ?zb ?zc ?zd ?ze ?zg) ?zB ?zF ?zX ?zN ?zT ?zf ?zk ?zr ?zu ?_); (case za => assumption); (case zb => assumption); (case zc => k_dflt exact Nat.le_trans hOl (by decide)); (case zd => k_dflt exact Nat.le_trans hWl (by decide)); (case ze => exact Int.le_trans (by decide) hq9.1); (case zg => exact Int.le_trans (Int.le_of_lt hq9.2) (due_le hn0i)); (case zB => k_asm); (case zF => k_asm); (case zX => k_asm); (case zN => k_asm); (case zT => k_asm); (case zf => k_dflt exact rfl); (case zk => k_dflt exact rfl); (case zr => ktr_room); (case zu => ktr_units); rintro _ _ _ ⟨_, rfl⟩ _ _ _)
    have hB := markC
    k_with "InvEndN" => ((rename MarkC => hB'); refine stop ?_)
    k_steps
    all_goals (
      refine Stop.go ?_
      rename News _ _ _ _ => nE'
      rename Fr _ _ _ _ => fE'
      refine kst_end () fE' nE' ?_ ?_ ?_ ?_ ?_ ?_ ?_
      · exact fun p hp => .tail _ (.tail _ (.tail _ (.tail _ (.tail _ (List.mem_append_left _ hp)))))
      · intro p hp; repeat (first | exact hp | refine List.Mem.tail _ ?_)
      · exact rfl
      · exact True.intro
      · exact List.forall_mem_nil _
      · intro z h1 h2 h3
        have hc := h3
        simp only [List.contains_cons, List.contains_nil, Bool.or_false, Bool.or_eq_false_iff, beq_eq_false_iff_ne, ne_eq] at h3
        obtain ⟨a1, a2, a3, a4, a5, a6, a7, a8, a9, a10, a11, a12, a13, a14⟩ := h3
        simp only [if_neg h1, if_neg a1, if_neg a2, if_neg a3, if_neg a4, if_neg a5, if_neg a6, if_neg a7, if_neg a8, if_neg a9, if_neg a11, if_neg a12, if_neg a13, if_neg a14]
        have hp1 : ¬ [Str.ofString "power"].contains z = true := by
          simp only [List.contains_cons, List.contains_nil, Bool.or_false, beq_iff_eq]
          exact a10
        exact (if_neg hp1).trans (if_neg (fun q => by rw [hc] at q; exact Bool.false_ne_true q))
      · exact True.intro)
  · intro _ u h tk _ _ F N
    dsimp only [kstB] at F
    k_steps)
end Mine
theorem PySem.Challenge.cw_ph0053_01_holds : PySem.Challenge.rw_ph0053_01.Holds :=
  Mine.law1
