import PyProof.Rows.All
import Wide.All
import OpenK.AllK
import Wide.FinOn
import Lean
import PySem.Challenge.RW_ph0053_02
open PySem PySem.W PyProof.Rows PySem.Calls PySem.Spec
set_option Elab.async false
set_option maxRecDepth 100000
namespace Mine
/-! texts as lists of codes -/
def St (l : List Nat) : Str := ⟨l.toArray⟩
theorem St_len (l : List Nat) : (St l).length = l.length := by simp [St, Str.length]
theorem St_cps (l : List Nat) : (St l).cps.toList = l := by simp [St]
theorem St_inj {a b : List Nat} (h : St a = St b) : a = b := by
  have := congrArg (fun x : Str => x.cps.toList) h
  simpa [St] using this
theorem St_beq (a b : List Nat) : (St a == St b) = decide (a = b) := by
  by_cases h : a = b
  · subst h; simp
  · have : ¬ St a = St b := fun e => h (St_inj e)
    simp [h, this]
theorem St_app (a b : List Nat) : St a ++ St b = St (a ++ b) := by
  apply Str.ext'
  rw [Str.cps_append]
  simp [St]
theorem St_one (c : Nat) : St [c] = ⟨#[c]⟩ := rfl
theorem slice_from {l : List Nat} {i : Int} (h0 : 0 ≤ i) (h1 : i ≤ l.length) : Txt.slice (St l) (some i) none = St (l.drop i.toNat) := by
  have h := StrLaws.sliceText_from (x := St l) (i := i) ⟨h0, by rw [St_cps]; exact h1⟩
  rw [St_cps] at h
  refine Eq.trans h ?_
  unfold St
  congr 2
  exact List.take_of_length_le (by rw [List.length_drop]; omega)
theorem slice_to {l : List Nat} {j : Int} (h0 : j < 0) (h1 : -(l.length : Int) ≤ j) : Txt.slice (St l) none (some j) = St (l.take (j + l.length).toNat) := by
  have h := StrLaws.sliceText_to_neg (x := St l) (j := j) h0 (by rw [St_len]; exact h1)
  rw [St_cps, St_len] at h
  refine Eq.trans h ?_
  rw [List.drop_zero, Int.sub_zero]
  rfl
theorem slice_all (l : List Nat) : Txt.slice (St l) none none = St l := by
  have h : StrLaws.sliceText (St l) none none = StrLaws.sliceText (St l) none (some (l.length : Int)) := by
    unfold StrLaws.sliceText
    rw [StrLaws.sliceIdx_none_hi, St_len]
  refine Eq.trans h ?_
  rw [StrLaws.sliceText_to ⟨by omega, by rw [St_cps]; omega⟩, St_cps]
  unfold St
  congr 2
  rw [List.drop_zero, Int.sub_zero]
  exact List.take_of_length_le (by omega)
theorem item_at {l : List Nat} {i : Int} (h0 : 0 ≤ i) (h1 : i < l.length) : Txt.item (St l) i = St [l.getD i.toNat 0] := by
  have hl : i.toNat < l.length := by omega
  have e : Txt.charAt (St l) i = some (l.getD i.toNat 0) := by
    refine StrLaws.at_nonneg h0 ?_
    simp [St, hl]
  unfold Txt.item
  rw [e]
  rfl
theorem item_neg {l : List Nat} {i : Int} (h0 : i < 0) (h1 : -(l.length : Int) ≤ i) : Txt.item (St l) i = St [l.getD (i + l.length).toNat 0] := by
  have hl : (i + l.length).toNat < l.length := by omega
  have e : Txt.charAt (St l) i = some (l.getD (i + l.length).toNat 0) := by
    refine StrLaws.at_neg h0 (by rw [St_len]; exact h1) ?_
    rw [St_len]
    simp [St, hl]
  unfold Txt.item
  rw [e]
  rfl
/-- a sign's lower form, below 128 -/
def lowc (c : Nat) : Nat := if 65 ≤ c ∧ c ≤ 90 then c + 32 else c
def subc (c d : Nat) : Int := if c = d then 0 else if lowc c = lowc d then 1 else 2
theorem lower_one {c : Nat} (h : c < 128) : Txt.lower (St [c]) = St [lowc c] :=
  (by decide +kernel : ∀ c, c < 128 → Txt.lower ⟨#[c]⟩ = ⟨#[lowc c]⟩) c h

theorem pos_bne (n : Nat) : ((n : Int) != 0) = decide (0 < n) := by
  cases n with
  | zero => rfl
  | succ n =>
    have e : (((n + 1 : Nat) : Int) != 0) = true := bne_iff_ne.mpr (by omega)
    rw [e]; simp
theorem lowc_lo {c : Nat} (h : c < 128) : lo1 c = lowc c := (by decide +kernel : ∀ c, c < 128 → lo1 c = lowc c) c h
theorem lower_St {l : List Nat} (h : ∀ c ∈ l, c < 128) : Txt.lower (St l) = St (l.map lowc) := by
  rw [lower_ascii (x := St l) (by rw [St_cps]; exact h)]
  apply Str.ext'
  show (St l).cps.map lo1 = (l.map lowc).toArray
  have : (l.map lowc) = l.map lo1 := List.map_congr_left fun c hc => (lowc_lo (h c hc)).symm
  rw [this]
  simp [St]
section
variable {prog : Program} {w : World} {A : Around} {E : Value → Shared → Prop} {s : Shared} {h₀ : Heap} {L : Addr} {m : Str → Option Value} {news : List (Addr × Obj)} {value slice : PySem.Expr} {l : List Nat} {t : Tok} {Q : Value → Shared → Prop}
theorem w_from {i : Int} {ui : Tok} (hF : Fr h₀ L s.heap m) (hN : News h₀ L s.heap news) (h0 : 0 ≤ i) (h1 : i ≤ l.length) (hz : l.length ≤ 1000)
    (h : ∀ h' t' k, Fr h₀ L h' m → News h₀ L h' news → Q (.str (St (l.drop i.toNat)) t') { s with heap := h', toks := k })
    (hs : subscripted slice false (.str (St l) t) (.ref s.heap.objs.size) = operate [.ref s.heap.objs.size, .str (St l) t] (getItem (.str (St l) t) (.ref s.heap.objs.size)))
    (ht : ∀ r, letTemporaryGo value (.str (St l) t) r = pure ()) :
    wpAny (model prog w) A (subscriptTail value slice (.str (St l) t) (.ref s.heap.objs.size)) Q E { s with heap := s.heap.push { cls := .type "slice", data := .fields #[.int i ui, .none, .none] } } :=
  slice_strN_sn hF hN (fun h' t' k a b => by rw [slice_from h0 h1]; exact h h' t' k a b) hs ht (by rw [St_len, sizeLine_eq]; omega)
theorem w_to {j : Int} {uj : Tok} (hF : Fr h₀ L s.heap m) (hN : News h₀ L s.heap news) (h0 : j < 0) (h1 : -(l.length : Int) ≤ j) (hz : l.length ≤ 1000)
    (h : ∀ h' t' k, Fr h₀ L h' m → News h₀ L h' news → Q (.str (St (l.take (j + l.length).toNat)) t') { s with heap := h', toks := k })
    (hs : subscripted slice false (.str (St l) t) (.ref s.heap.objs.size) = operate [.ref s.heap.objs.size, .str (St l) t] (getItem (.str (St l) t) (.ref s.heap.objs.size)))
    (ht : ∀ r, letTemporaryGo value (.str (St l) t) r = pure ()) :
    wpAny (model prog w) A (subscriptTail value slice (.str (St l) t) (.ref s.heap.objs.size)) Q E { s with heap := s.heap.push { cls := .type "slice", data := .fields #[.none, .int j uj, .none] } } :=
  slice_strN_ns hF hN (fun h' t' k a b => by rw [slice_to h0 h1]; exact h h' t' k a b) hs ht (by rw [St_len, sizeLine_eq]; omega)
theorem w_all (hF : Fr h₀ L s.heap m) (hN : News h₀ L s.heap news) (hz : l.length ≤ 1000)
    (h : ∀ h' t' k, Fr h₀ L h' m → News h₀ L h' news → Q (.str (St l) t') { s with heap := h', toks := k })
    (hs : subscripted slice false (.str (St l) t) (.ref s.heap.objs.size) = operate [.ref s.heap.objs.size, .str (St l) t] (getItem (.str (St l) t) (.ref s.heap.objs.size)))
    (ht : ∀ r, letTemporaryGo value (.str (St l) t) r = pure ()) :
    wpAny (model prog w) A (subscriptTail value slice (.str (St l) t) (.ref s.heap.objs.size)) Q E { s with heap := s.heap.push { cls := .type "slice", data := .fields #[.none, .none, .none] } } :=
  slice_strN_nn hF hN (fun h' t' k a b => by rw [slice_all]; exact h h' t' k a b) hs ht (by rw [St_len, sizeLine_eq]; omega)
theorem fits_small {i : Int} (h0 : -2000 ≤ i) (h1 : i ≤ 2000) : fitsSsize i = true := fitsSsize_of (N := 9223372036854775808) (by omega) (by omega) (Int.le_refl _)
theorem w_item {i : Int} {u : Tok} (h0 : 0 ≤ i) (h1 : i < l.length) (hz : l.length ≤ 1000) (h : ∀ k, Q (.str (St [l.getD i.toNat 0]) k) { s with toks := k + 1 })
    (hs : subscripted slice false (.str (St l) t) (.int i u) = operate [.str (St l) t, .int i u] (getItem (.str (St l) t) (.int i u)))
    (ht : ∀ r, letTemporaryGo value (.str (St l) t) r = pure ()) :
    wpAny (model prog w) A (subscriptTail value slice (.str (St l) t) (.int i u)) Q E s :=
  item_str (fits_small (by omega) (by omega)) (by rw [St_len]; omega) (by rw [St_len]; omega) (fun _ => by rw [item_at h0 h1]; exact h _) hs ht
theorem w_itemN {i : Int} {u : Tok} (h0 : i < 0) (h1 : -(l.length : Int) ≤ i) (hz : l.length ≤ 1000) (h : ∀ k, Q (.str (St [l.getD (i + l.length).toNat 0]) k) { s with toks := k + 1 })
    (hs : subscripted slice false (.str (St l) t) (.int i u) = operate [.str (St l) t, .int i u] (getItem (.str (St l) t) (.int i u)))
    (ht : ∀ r, letTemporaryGo value (.str (St l) t) r = pure ()) :
    wpAny (model prog w) A (subscriptTail value slice (.str (St l) t) (.int i u)) Q E s :=
  item_str (fits_small (by omega) (by omega)) (by rw [St_len]; omega) (by rw [St_len]; omega) (fun _ => by rw [item_neg h0 h1]; exact h _) hs ht
theorem w_truthy {Q : Bool → Shared → Prop} (hz : l.length ≤ 1000) (h : ∀ k, Q (decide (0 < l.length)) { s with toks := k }) : wpAny (model prog w) A (PySem.truthy (.str (St l) t)) Q E s :=
  KXt.truthy (by rw [St_len]; exact pos_bne _) (by rw [St_len]; omega) h
theorem w_len (hz : l.length ≤ 1000) (h : ∀ k, Q (.int (l.length : Int) k) { s with toks := k + 1 }) : wpAny (model prog w) A (call (.builtin "len") [.str (St l) t]) Q E s := by
  refine P.len_str (by rw [St_len]; omega) ?_
  rw [St_len]
  exact h _
theorem w_low (hz : l.length ≤ 1000) (hc : ∀ c ∈ l, c < 128) (h : ∀ k, Q (.str (St (l.map lowc)) k) { s with toks := k + 1 }) : wpAny (model prog w) A (call (.builtin "str.lower") [.str (St l) t]) Q E s := by
  refine SCL.lower (by rw [St_len]; omega) ?_
  rw [lower_St hc]
  exact fun _ => h _
theorem w_add {x y : Str} {a b : List Nat} {u : Tok} (hx : x = St a) (hy : y = St b) (hz : a.length + b.length ≤ 1000) (h : ∀ t' k, Q (.str (St (a ++ b)) t') { s with toks := k }) : wpAny (model prog w) A (binaryOp .Add (.str x t) (.str y u)) Q E s := by
  subst hx hy
  refine KOpn.add (by rw [St_len, St_len]; omega) fun t' k _ => ?_
  rw [St_app]
  exact h t' k
theorem w_truth {Q : Bool → Shared → Prop} (hz : l.length ≤ 1000) (h1 : 0 < l.length → ∀ k, Q true { s with toks := k }) (h0 : l.length = 0 → ∀ k, Q false { s with toks := k }) : wpAny (model prog w) A (PySem.truthy (.str (St l) t)) Q E s := by
  refine w_truthy hz fun k => ?_
  by_cases hl : 0 < l.length
  · simp only [hl, decide_true]; exact h1 hl k
  · simp only [hl, decide_false]; exact h0 (by omega) k
theorem w_eq {a b : List Nat} {t u : Tok} (h1 : a = b → Q (.bool true) s) (h0 : a ≠ b → Q (.bool false) s) : wpAny (model prog w) A (compareOp .Eq (.str (St a) t) (.str (St b) u)) Q E s := by
  refine P.eq_str ?_
  rw [St_cps, St_cps]
  by_cases h : a = b
  · rw [beq_iff_eq.mpr h]; exact h1 h
  · rw [beq_eq_false_iff_ne.mpr h]; exact h0 h
end
/-! the distance, as the text reckons it -/
def cpl : List Nat → List Nat → Nat
  | x :: a, y :: b => if x = y then cpl a b + 1 else 0
  | _, _ => 0
def row0 (n : Nat) : List Int := (List.range n).map fun (i : Nat) => 2 + 2 * (i : Int)
def cells (a : List Nat) (c : Nat) (row : List Int) (d : Int) : Nat → List Int × Int × Int × Int
  | 0 => (row, d, d, 9223372036854775807)
  | i + 1 =>
    let z := cells a c row d i
    let r := z.1.getD i 0
    let p := (if r < z.2.2.1 then r else z.2.2.1) + 2
    let q := z.2.1 + subc c (a.getD i 0)
    let v := if q < p then q else p
    (z.1.set i v, r, v, if v < z.2.2.2 then v else z.2.2.2)
def rows (a b : List Nat) (m : Int) : Nat → Option (List Int × Int)
  | 0 => some (row0 a.length, 0)
  | n + 1 => match rows a b m n with
    | none => none
    | some z =>
      let c := cells a (b.getD n 0) z.1 ((n : Int) * 2) a.length
      if m < c.2.2.2 then none else some (c.1, c.2.2.1)
def core (a b : List Nat) (m : Int) : Int :=
  if m < ((b.length : Int) - a.length) * 2 then m + 1 else match rows a b m b.length with
    | none => m + 1
    | some z => z.2
def mid (a b : List Nat) (m : Int) : Int :=
  if a = [] ∨ b = [] then 2 * ((a.length : Int) + b.length) else if b.length < a.length then core b a m else core a b m
def cutEnd (a b : List Nat) : Nat := cpl a.reverse b.reverse
def ends (a b : List Nat) (m : Int) : Int := mid (a.take (a.length - cutEnd a b)) (b.take (b.length - cutEnd a b)) m
def lev (a b : List Nat) (m : Int) : Int :=
  if a = b then 0 else ends (a.drop (cpl a b)) (b.drop (cpl a b)) m
theorem ints_of_items : ∀ {ns : List Int} {vs : List Value}, vs.length = ns.length → (∀ (j : Nat) (v : Value), vs[j]? = some v → ∃ t, v = Value.int (ns.getD j 0) t) → IntsAre vs ns
  | [], [], _, _ => .nil
  | [], _ :: _, h, _ => by simp at h
  | _ :: _, [], h, _ => by simp at h
  | n :: ns, v :: vs, h, hj => by
    obtain ⟨t, e⟩ := hj 0 v rfl
    have e : v = .int n t := e
    subst e
    exact .cons n t (ints_of_items (by simpa using h) fun j v hv => by simpa using hj (j + 1) v (by simpa using hv))
theorem row0_len (n : Nat) : (row0 n).length = n := by simp [row0]
theorem row0_at {n j : Nat} (h : j < n) : (row0 n).getD j 0 = 2 + (j : Int) * 2 := by
  simp [row0, h, Int.mul_comm]
theorem size_two (n : Nat) : Builtin.Range.rangeSize 2 (2 * ((n : Int) + 1)) 2 = (n : Int) := by
  unfold Builtin.Range.rangeSize
  rw [if_pos (by decide)]
  split
  · omega
  · omega
theorem small_two {n : Nat} (hn : n ≤ 1000) : Builtin.Range.small 2 (2 * ((n : Int) + 1)) 2 = true := by
  have fl : ∀ {i : Int}, -9999 ≤ i → i ≤ 9999 → Builtin.Range.rangeFitsLong i = true := fun h1 h2 => by
    unfold Builtin.Range.rangeFitsLong
    rw [Bool.and_eq_true, decide_eq_true_eq, decide_eq_true_eq]
    omega
  unfold Builtin.Range.small
  rw [size_two, fl (by omega) (by omega), fl (by omega) (by omega), fl (by omega) (by omega), fl (by omega) (by omega), if_pos (by decide)]
  simp
theorem w_rows {prog : Program} {w : World} {A : Around} {E : Value → Shared → Prop} {s : Shared} {h₀ : Heap} {L : Addr} {m : Str → Option Value} {news : List (Addr × Obj)} {Q : Value → Shared → Prop} {r : Addr} {n : Nat} {t u v : Tok}
    (hh : A.handled = none) (F : Fr h₀ L s.heap m) (N : News h₀ L s.heap news) (hr : IsRange s.heap r 2 (2 * ((n : Int) + 1)) 2 t u v) (hn : n ≤ 1000)
    (h : ∀ D ys c h' tk, Fr h₀ L h' m → News h₀ L h' ((D, listOf ys.toArray c) :: news) → (∀ p ∈ news, p.1 < D) → IntsAre ys (row0 n) → Q (.ref D) { s with heap := h', toks := tk }) :
    wpAny (model prog w) A (call (.type "list") [.ref r]) Q E s := by
  refine call_list_range hh hr (small_two hn) (size_two n) (by omega) fun h' tk acc' c' hk hS' hacc => ?_
  have hL : s.heap.objs.size ≠ L := Nat.ne_of_gt F.ns.lt
  refine h s.heap.objs.size acc'.toList c' h' tk (F.keeps hk) ?_ (fun p hp => Heap.lt_size (N p hp).1) (ints_of_items ?_ fun j v hv => ?_)
  · intro p hp
    rcases List.mem_cons.mp hp with rfl | hp
    · refine ⟨by simpa using hS', hL, ?_⟩
      cases e : h₀.get? s.heap.objs.size with
      | none => rfl
      | some o => exact absurd (Heap.lt_size (F.keep _ _ e)) (Nat.lt_irrefl _)
    · exact ⟨hk _ _ (N p hp).1, (N p hp).2⟩
  · rw [row0_len, Array.length_toList]; exact hacc.1
  · have hv' : acc'[j]? = some v := by simpa using hv
    obtain ⟨t, rfl⟩ := hacc.2 j v hv'
    have hj : j < n := by
      have := (Array.getElem?_eq_some_iff.mp hv').1
      rw [hacc.1] at this; exact this
    exact ⟨t, by rw [row0_at hj]⟩
theorem getD_lt {l : List Nat} (h : ∀ c ∈ l, c < 128) (i : Nat) : l.getD i 0 < 128 := by
  by_cases hi : i < l.length
  · have : l.getD i 0 = l[i] := by simp [hi]
    rw [this]; exact h _ (List.getElem_mem hi)
  · have : l.getD i 0 = 0 := by simp [Nat.not_lt.mp hi]
    omega
theorem cells_lt {sa : List Nat} {c : Nat} {r0 row : List Int} {d dist res mn k : Int} {pre : List Int} (h : cells sa c r0 d pre.length = (row, dist, res, mn)) (hk : k = 0 + (pre.length : Int)) (hl : row.length = sa.length)
    (hv : (if dist + subc c (sa.getD k.toNat 0) < (if row.getD k.toNat 0 < res then row.getD k.toNat 0 else res) + 2 then dist + subc c (sa.getD k.toNat 0) else (if row.getD k.toNat 0 < res then row.getD k.toNat 0 else res) + 2) < mn) :
    cells sa c r0 d (pre ++ [k]).length = (row.set k.toNat (if dist + subc c (sa.getD k.toNat 0) < (if row.getD k.toNat 0 < res then row.getD k.toNat 0 else res) + 2 then dist + subc c (sa.getD k.toNat 0) else (if row.getD k.toNat 0 < res then row.getD k.toNat 0 else res) + 2), row.getD k.toNat 0, (if dist + subc c (sa.getD k.toNat 0) < (if row.getD k.toNat 0 < res then row.getD k.toNat 0 else res) + 2 then dist + subc c (sa.getD k.toNat 0) else (if row.getD k.toNat 0 < res then row.getD k.toNat 0 else res) + 2), (if dist + subc c (sa.getD k.toNat 0) < (if row.getD k.toNat 0 < res then row.getD k.toNat 0 else res) + 2 then dist + subc c (sa.getD k.toNat 0) else (if row.getD k.toNat 0 < res then row.getD k.toNat 0 else res) + 2)) ∧
    (row.set k.toNat (if dist + subc c (sa.getD k.toNat 0) < (if row.getD k.toNat 0 < res then row.getD k.toNat 0 else res) + 2 then dist + subc c (sa.getD k.toNat 0) else (if row.getD k.toNat 0 < res then row.getD k.toNat 0 else res) + 2)).length = sa.length := by
  have hkn : k.toNat = pre.length := by omega
  rw [hkn] at hv ⊢
  refine ⟨?_, by rw [List.length_set]; exact hl⟩
  rw [List.length_append, List.length_singleton]
  simp only [cells, h]
  rw [if_pos hv]
theorem cells_ge {sa : List Nat} {c : Nat} {r0 row : List Int} {d dist res mn k : Int} {pre : List Int} (h : cells sa c r0 d pre.length = (row, dist, res, mn)) (hk : k = 0 + (pre.length : Int)) (hl : row.length = sa.length)
    (hv : ¬ (if dist + subc c (sa.getD k.toNat 0) < (if row.getD k.toNat 0 < res then row.getD k.toNat 0 else res) + 2 then dist + subc c (sa.getD k.toNat 0) else (if row.getD k.toNat 0 < res then row.getD k.toNat 0 else res) + 2) < mn) :
    cells sa c r0 d (pre ++ [k]).length = (row.set k.toNat (if dist + subc c (sa.getD k.toNat 0) < (if row.getD k.toNat 0 < res then row.getD k.toNat 0 else res) + 2 then dist + subc c (sa.getD k.toNat 0) else (if row.getD k.toNat 0 < res then row.getD k.toNat 0 else res) + 2), row.getD k.toNat 0, (if dist + subc c (sa.getD k.toNat 0) < (if row.getD k.toNat 0 < res then row.getD k.toNat 0 else res) + 2 then dist + subc c (sa.getD k.toNat 0) else (if row.getD k.toNat 0 < res then row.getD k.toNat 0 else res) + 2), mn) ∧
    (row.set k.toNat (if dist + subc c (sa.getD k.toNat 0) < (if row.getD k.toNat 0 < res then row.getD k.toNat 0 else res) + 2 then dist + subc c (sa.getD k.toNat 0) else (if row.getD k.toNat 0 < res then row.getD k.toNat 0 else res) + 2)).length = sa.length := by
  have hkn : k.toNat = pre.length := by omega
  rw [hkn] at hv ⊢
  refine ⟨?_, by rw [List.length_set]; exact hl⟩
  rw [List.length_append, List.length_singleton]
  simp only [cells, h]
  rw [if_neg hv]
theorem rows_next {sa sb : List Nat} {m : Int} {n : Nat} {r0 row : List Int} {x dist res mn : Int} (h : rows sa sb m n = some (r0, x)) (hc : cells sa (sb.getD n 0) r0 ((n : Int) * 2) sa.length = (row, dist, res, mn)) :
    rows sa sb m (n + 1) = if m < mn then none else some (row, res) := by
  simp only [rows, h, hc]
theorem rows_s {sa sb : List Nat} {m k : Int} {pre : List Int} {r0 row : List Int} {x dist res mn : Int} {N : Nat} (h : rows sa sb m pre.length = some (r0, x)) (hk : k = 0 + (pre.length : Int)) (hc : cells sa (sb.getD k.toNat 0) r0 (k * 2) N = (row, dist, res, mn)) (hN : N = sa.length)
    (hl : row.length = sa.length) (hm : ¬ m < mn) : rows sa sb m (pre ++ [k]).length = some (row, res) ∧ row.length = sa.length := by
  have hkn : k.toNat = pre.length := by omega
  have hk2 : k * 2 = (pre.length : Int) * 2 := by omega
  rw [hkn, hk2, hN] at hc
  rw [List.length_append, List.length_singleton, rows_next h hc, if_neg hm]
  exact ⟨rfl, hl⟩
theorem rows_none {sa sb : List Nat} {m : Int} {n : Nat} (h : rows sa sb m n = none) : ∀ j, rows sa sb m (n + j) = none
  | 0 => h
  | j + 1 => by
    have := rows_none h j
    rw [← Nat.add_assoc]
    simp only [rows, this]
theorem core_early {sa sb : List Nat} {m k : Int} {pre : List Int} {r0 row : List Int} {x dist res mn : Int} {N : Nat} (h : rows sa sb m pre.length = some (r0, x)) (hk : k = 0 + (pre.length : Int)) (hc : cells sa (sb.getD k.toNat 0) r0 (k * 2) N = (row, dist, res, mn)) (hN : N = sa.length)
    (hm : m < mn) (hlt : pre.length < sb.length) : m + 1 = core sa sb m := by
  have hkn : k.toNat = pre.length := by omega
  have hk2 : k * 2 = (pre.length : Int) * 2 := by omega
  rw [hkn, hk2, hN] at hc
  have h1 : rows sa sb m (pre.length + 1) = none := by rw [rows_next h hc, if_pos hm]
  have h2 := rows_none h1 (sb.length - (pre.length + 1))
  have e : pre.length + 1 + (sb.length - (pre.length + 1)) = sb.length := by omega
  rw [e] at h2
  unfold core
  split
  · rfl
  · rw [h2]
theorem core_end {sa sb : List Nat} {m : Int} {row : List Int} {res : Int} {N : Nat} (h : rows sa sb m N = some (row, res)) (hN : N = sb.length) (hm : ¬ m < ((sb.length : Int) - sa.length) * 2) : res = core sa sb m := by
  subst hN
  unfold core
  rw [if_neg hm, h]
theorem cpl_le : ∀ a b : List Nat, cpl a b ≤ a.length ∧ cpl a b ≤ b.length
  | [], b => by simp [cpl]
  | _ :: _, [] => by simp [cpl]
  | x :: a, y :: b => by
    have h := cpl_le a b
    simp only [cpl]
    split <;> simp <;> omega
theorem cpl_nil_l (b : List Nat) : cpl [] b = 0 := by simp [cpl]
theorem cpl_nil_r (a : List Nat) : cpl a [] = 0 := by cases a <;> simp [cpl]
abbrev Inv1 (la lb : List Nat) (pre : Int) : Prop := 0 ≤ pre ∧ pre ≤ la.length ∧ pre ≤ lb.length ∧ cpl la lb = pre.toNat + cpl (la.drop pre.toNat) (lb.drop pre.toNat)
theorem inv1_0 (la lb : List Nat) : Inv1 la lb 0 := ⟨by omega, by omega, by omega, by simp⟩
theorem drop_at {l : List Nat} {n : Nat} (h : n < l.length) : l.drop n = l.getD n 0 :: l.drop (n + 1) := by
  rw [List.drop_eq_getElem_cons h]
  simp [h]
theorem inv1_s {la lb : List Nat} {p : Int} (h0 : 0 ≤ p) (h1 : p ≤ la.length) (h2 : p ≤ lb.length) (h : cpl la lb = p.toNat + cpl (la.drop p.toNat) (lb.drop p.toNat))
    (ha : 0 < (la.drop p.toNat).length) (hb : 0 < (lb.drop p.toNat).length) (e : [la.getD p.toNat 0] = [lb.getD p.toNat 0]) : Inv1 la lb (p + 1) := by
  rw [List.length_drop] at ha hb
  refine ⟨by omega, by omega, by omega, ?_⟩
  have e' : la.getD p.toNat 0 = lb.getD p.toNat 0 := List.head_eq_of_cons_eq e
  rw [drop_at (l := la) (n := p.toNat) (by omega), drop_at (l := lb) (n := p.toNat) (by omega), cpl, if_pos e'] at h
  have e2 : (p + 1).toNat = p.toNat + 1 := by omega
  rw [e2]; omega
theorem inv1_e1 {la lb : List Nat} {p : Int} (h0 : 0 ≤ p) (h : cpl la lb = p.toNat + cpl (la.drop p.toNat) (lb.drop p.toNat)) (ha : (la.drop p.toNat).length = 0) : ((cpl la lb : Nat) : Int) = p := by
  rw [List.length_eq_zero_iff] at ha
  rw [ha, cpl_nil_l] at h; omega
theorem inv1_e2 {la lb : List Nat} {p : Int} (h0 : 0 ≤ p) (h : cpl la lb = p.toNat + cpl (la.drop p.toNat) (lb.drop p.toNat)) (hb : (lb.drop p.toNat).length = 0) : ((cpl la lb : Nat) : Int) = p := by
  rw [List.length_eq_zero_iff] at hb
  rw [hb, cpl_nil_r] at h; omega
theorem inv1_e3 {la lb : List Nat} {p : Int} (h0 : 0 ≤ p) (h : cpl la lb = p.toNat + cpl (la.drop p.toNat) (lb.drop p.toNat))
    (ha : 0 < (la.drop p.toNat).length) (hb : 0 < (lb.drop p.toNat).length) (e : [la.getD p.toNat 0] ≠ [lb.getD p.toNat 0]) : ((cpl la lb : Nat) : Int) = p := by
  rw [List.length_drop] at ha hb
  have e' : ¬ la.getD p.toNat 0 = lb.getD p.toNat 0 := fun q => e (by rw [q])
  rw [drop_at (l := la) (n := p.toNat) (by omega), drop_at (l := lb) (n := p.toNat) (by omega), cpl, if_neg e'] at h
  omega
def sh (a b : List Nat) : List Nat := if b.length < a.length then b else a
def lg (a b : List Nat) : List Nat := if b.length < a.length then a else b
theorem mid_core {a b : List Nat} {m : Int} (ha : 0 < a.length) (hb : 0 < b.length) : mid a b m = core (sh a b) (lg a b) m := by
  have h1 : ¬ (a = [] ∨ b = []) := by rintro (rfl | rfl) <;> simp at *
  unfold mid sh lg
  rw [if_neg h1]
  split <;> rfl
theorem sh_lg (a b : List Nat) : (sh a b).length ≤ (lg a b).length := by unfold sh lg; split <;> omega
theorem sh_or (a b : List Nat) : (sh a b = a ∧ lg a b = b) ∨ (sh a b = b ∧ lg a b = a) := by unfold sh lg; split <;> simp
abbrev Inv2 (a b : List Nat) (p : Int) : Prop := p ≤ 0 ∧ -p ≤ a.length ∧ -p ≤ b.length ∧ cutEnd a b = (-p).toNat + cpl (a.reverse.drop (-p).toNat) (b.reverse.drop (-p).toNat)
theorem inv2_0 (a b : List Nat) : Inv2 a b 0 := ⟨by omega, by omega, by omega, by simp [cutEnd]⟩
theorem inv2_up {a b : List Nat} {p : Int} (h0 : p ≤ 0) (h1 : -p ≤ a.length) (h2 : -p ≤ b.length) (h : cutEnd a b = (-p).toNat + cpl (a.reverse.drop (-p).toNat) (b.reverse.drop (-p).toNat)) : Inv1 a.reverse b.reverse (-p) :=
  ⟨by omega, by rw [List.length_reverse]; omega, by rw [List.length_reverse]; omega, h⟩
theorem rev_at {a : List Nat} {p : Int} (h0 : p ≤ 0) (hA : 0 < (a.length : Int) + p) : a.getD (p - 1 + a.length).toNat 0 = a.reverse.getD (-p).toNat 0 := by
  have h1 : (-p).toNat < a.length := by omega
  have h2 : (p - 1 + a.length).toNat < a.length := by omega
  rw [List.getD_eq_getElem?_getD, List.getD_eq_getElem?_getD, List.getElem?_reverse h1]
  congr 2
  omega
theorem inv2_s {a b : List Nat} {p : Int} (h0 : p ≤ 0) (h1 : -p ≤ a.length) (h2 : -p ≤ b.length) (h : cutEnd a b = (-p).toNat + cpl (a.reverse.drop (-p).toNat) (b.reverse.drop (-p).toNat))
    (hA : 0 < (a.length : Int) + p) (hB : 0 < (b.length : Int) + p) (e : [a.getD (p - 1 + a.length).toNat 0] = [b.getD (p - 1 + b.length).toNat 0]) : Inv2 a b (p - 1) := by
  obtain ⟨i0, i1, i2, i3⟩ := inv2_up h0 h1 h2 h
  rw [rev_at h0 hA, rev_at h0 hB] at e
  obtain ⟨j0, j1, j2, j3⟩ := inv1_s i0 i1 i2 i3 (by rw [List.length_drop, List.length_reverse]; omega) (by rw [List.length_drop, List.length_reverse]; omega) e
  have e2 : -(p - 1) = -p + 1 := by omega
  refine ⟨by omega, by omega, by omega, by rw [e2]; exact j3⟩
theorem inv2_e1 {a b : List Nat} {p : Int} (h0 : p ≤ 0) (h : cutEnd a b = (-p).toNat + cpl (a.reverse.drop (-p).toNat) (b.reverse.drop (-p).toNat)) (hA : (a.length : Int) + p ≤ 0) : -((cutEnd a b : Nat) : Int) = p := by
  have := inv1_e1 (la := a.reverse) (lb := b.reverse) (p := -p) (by omega) h (by rw [List.length_drop, List.length_reverse]; omega)
  unfold cutEnd; omega
theorem inv2_e2 {a b : List Nat} {p : Int} (h0 : p ≤ 0) (h : cutEnd a b = (-p).toNat + cpl (a.reverse.drop (-p).toNat) (b.reverse.drop (-p).toNat)) (hB : (b.length : Int) + p ≤ 0) : -((cutEnd a b : Nat) : Int) = p := by
  have := inv1_e2 (la := a.reverse) (lb := b.reverse) (p := -p) (by omega) h (by rw [List.length_drop, List.length_reverse]; omega)
  unfold cutEnd; omega
theorem inv2_e3 {a b : List Nat} {p : Int} (h0 : p ≤ 0) (h : cutEnd a b = (-p).toNat + cpl (a.reverse.drop (-p).toNat) (b.reverse.drop (-p).toNat))
    (hA : 0 < (a.length : Int) + p) (hB : 0 < (b.length : Int) + p) (e : [a.getD (p - 1 + a.length).toNat 0] ≠ [b.getD (p - 1 + b.length).toNat 0]) : -((cutEnd a b : Nat) : Int) = p := by
  rw [rev_at h0 hA, rev_at h0 hB] at e
  have := inv1_e3 (la := a.reverse) (lb := b.reverse) (p := -p) (by omega) h (by rw [List.length_drop, List.length_reverse]; omega) (by rw [List.length_drop, List.length_reverse]; omega) e
  unfold cutEnd; omega
theorem cutEnd_le (a b : List Nat) : cutEnd a b ≤ a.length ∧ cutEnd a b ≤ b.length := by
  have := cpl_le a.reverse b.reverse
  simpa [cutEnd] using this
/-! bytes -/
abbrev apB : Array UInt8 := #[65, 66, 67, 68, 69, 70, 71, 72, 73, 74, 75, 76, 77, 78, 79, 80]
theorem ap_all : ∀ m : Nat, m < 16 → KBw.bInts (KBy.picked apB (some (m : Int)) (some ((m : Int) + 1))) = [65 + (m : Int)] := by decide +kernel
theorem ap_pick {m : Int} (h0 : 0 ≤ m) (h1 : m < 16) : KBw.bInts (KBy.picked apB (some m) (some (m + 1))) = [65 + m] := by
  obtain ⟨k, rfl⟩ := Int.eq_ofNat_of_zero_le h0
  exact ap_all k (by omega)
/-- a number's letters, the first one ahead -/
def hexOf (n : Nat) : List Int := if h : n = 0 then [] else hexOf (n / 16) ++ [65 + ((n % 16 : Nat) : Int)]
decreasing_by omega
theorem hexOf_zero : hexOf 0 = [] := by unfold hexOf; simp
theorem hexOf_pos {n : Nat} (h : n ≠ 0) : hexOf n = hexOf (n / 16) ++ [65 + ((n % 16 : Nat) : Int)] := by
  rw [hexOf]; simp [h]
theorem hexOf_len : ∀ (k n : Nat), n < 16 ^ k → (hexOf n).length ≤ k
  | 0, n, h => by
    have : n = 0 := by simpa using h
    rw [this, hexOf_zero]; simp
  | k + 1, n, h => by
    by_cases hn : n = 0
    · rw [hn, hexOf_zero]; simp
    · rw [hexOf_pos hn, List.length_append]
      have := hexOf_len k (n / 16) (by rw [Nat.pow_succ] at h; omega)
      simp; omega
theorem snoc_ind {P : List Int → Prop} (h0 : P []) (hs : ∀ l x, P l → P (l ++ [x])) (l : List Int) : P l := by
  have h : ∀ r : List Int, P r.reverse := by
    intro r
    induction r with
    | nil => exact h0
    | cons x r ih => rw [List.reverse_cons]; exact hs _ _ ih
  have := h l.reverse
  rwa [List.reverse_reverse] at this
def numOf (ns : List Int) : Int := ns.foldl (fun a f => 16 * a + f) 0
theorem numOf_snoc (ns : List Int) (f : Int) : numOf (ns ++ [f]) = 16 * numOf ns + f := by simp [numOf, List.foldl_append]
theorem numOf_range : ∀ (ns : List Int), (∀ f ∈ ns, 0 ≤ f ∧ f < 16) → 0 ≤ numOf ns ∧ numOf ns < 16 ^ ns.length := by
  refine snoc_ind ?_ ?_
  · intro _; simp [numOf]
  · intro ns f ih h
    have h1 := ih fun g hg => h g (by simp [hg])
    have h2 := h f (by simp)
    rw [numOf_snoc, List.length_append, List.length_singleton]
    have e : (16 : Int) ^ (ns.length + 1) = 16 ^ ns.length * 16 := by rw [Int.pow_succ]
    rw [e]
    omega
theorem hexOf_num : ∀ (ns : List Int), (∀ f ∈ ns, 0 ≤ f ∧ f < 16) → (∀ f r, ns = f :: r → f ≠ 0) → hexOf (numOf ns).toNat = ns.map (fun f => 65 + f) ∧ (ns ≠ [] → numOf ns ≠ 0) := by
  refine snoc_ind ?_ ?_
  · intro _ _; simp [numOf, hexOf_zero]
  · intro ns f ih h hd
    have hr := numOf_range ns fun g hg => h g (by simp [hg])
    have hf := h f (by simp)
    have h0 : numOf (ns ++ [f]) ≠ 0 := by
      rw [numOf_snoc]
      cases ns with
      | nil =>
        have := hd f [] rfl
        simp only [numOf, List.foldl_nil]; omega
      | cons g r =>
        have := (ih (fun g' hg => h g' (by simp only [List.mem_append]; exact .inl hg)) (fun f' r' e => hd f' (r' ++ [f]) (by rw [e]; rfl))).2 (by simp)
        omega
    refine ⟨?_, fun _ => h0⟩
    have hp : (numOf (ns ++ [f])).toNat ≠ 0 := by
      have := (numOf_range (ns ++ [f]) h).1
      omega
    rw [hexOf_pos hp, numOf_snoc]
    have e1 : (16 * numOf ns + f).toNat / 16 = (numOf ns).toNat := by omega
    have e2 : (((16 * numOf ns + f).toNat % 16 : Nat) : Int) = f := by omega
    rw [e1, e2]
    have ih' : hexOf (numOf ns).toNat = ns.map (fun f => 65 + f) := by
      cases ns with
      | nil => simp [numOf, hexOf_zero]
      | cons g r => exact (ih (fun g' hg => h g' (by simp only [List.mem_append]; exact .inl hg)) (fun f' r' e => hd f' (r' ++ [f]) (by rw [e]; rfl))).1
    rw [ih']
    simp
theorem sign_num {sign num : Int} (hs : sign = 1 ∨ sign = -1) (h : 0 ≤ num) : (sign * num).natAbs = num.toNat := by
  rcases hs with rfl | rfl <;> omega
theorem num_small {ns : List Int} (hr : ∀ f ∈ ns, 0 ≤ f ∧ f < 16) (hz : ns.length ≤ 15) : 0 ≤ numOf ns ∧ numOf ns < 16 ^ 15 := by
  have h := numOf_range ns hr
  refine ⟨h.1, Int.lt_of_lt_of_le h.2 ?_⟩
  have : (16 : Nat) ^ ns.length ≤ 16 ^ 15 := Nat.pow_le_pow_right (by decide) hz
  have e : ((16 ^ ns.length : Nat) : Int) = (16 : Int) ^ ns.length := by simp
  rw [← e]
  omega
theorem num_letters {ns : List Int} {sign : Int} (hs : sign = 1 ∨ sign = -1) (hr : ∀ f ∈ ns, 0 ≤ f ∧ f < 16) (hh : ∀ f r, ns = f :: r → f ≠ 0) : hexOf (sign * numOf ns).natAbs = ns.map (fun f => 65 + f) := by
  rw [sign_num hs (numOf_range ns hr).1]
  exact (hexOf_num ns hr hh).1
theorem letter_in {ns : List Int} {k : Int} (hr : ∀ f ∈ ns, 0 ≤ f ∧ f < 16) (hk : k ∈ ns.map (fun f => 65 + f)) : 65 ≤ k ∧ k ≤ 80 := by
  obtain ⟨f, hf, rfl⟩ := List.mem_map.mp hk
  have := hr f hf
  omega
theorem abs_ite (n : Int) : (if n < 0 then -n else n) = (n.natAbs : Int) := by split <;> omega
theorem fmod16 (x : Int) : 0 ≤ x.fmod 16 ∧ x.fmod 16 < 16 := by
  rw [Int.fmod_eq_emod_of_nonneg _ (by decide)]; omega
theorem ap_mod (x : Int) : KBw.bInts (KBy.picked apB (some (x.fmod 16)) (some (x.fmod 16 + 1))) = [65 + x.fmod 16] := ap_pick (fmod16 x).1 (fmod16 x).2
theorem one_size {b : Array UInt8} {x : Int} (h : KBw.bInts b = [x]) : b.size = 1 := by rw [← KBw.ints_length, h]; rfl
/-- a loop's word in Int2AP -/
abbrev Inv3 (n : Int) (num : Int) (val : Array UInt8) : Prop := 0 ≤ num ∧ num ≤ n.natAbs ∧ hexOf n.natAbs = hexOf num.toNat ++ KBw.bInts val ∧ val.size ≤ 20
theorem inv3_0 (n : Int) : Inv3 n (n.natAbs : Int) #[] := ⟨by omega, by omega, by simp [KBw.bInts], by simp⟩
theorem inv3_s {n num : Int} {val pk : Array UInt8} {q r : Int} (h0 : 0 ≤ num) (h1 : num ≤ n.natAbs) (h : hexOf n.natAbs = hexOf num.toNat ++ KBw.bInts val) (hn : num ≠ 0) (hs : n.natAbs < 16 ^ 18)
    (hq : q = num.fdiv 16) (hr : r = num.fmod 16) (hp : KBw.bInts pk = [65 + r]) : Inv3 n q (pk ++ val) := by
  have e1 : num.fdiv 16 = num / 16 := by rw [Int.fdiv_eq_ediv_of_nonneg _ (by decide)]
  have e2 : num.fmod 16 = num % 16 := by rw [Int.fmod_eq_emod_of_nonneg _ (by decide)]
  rw [e1] at hq
  rw [e2] at hr
  have hb : KBw.bInts (pk ++ val) = [65 + r] ++ KBw.bInts val := KBw.ints_app hp rfl
  have hh : hexOf n.natAbs = hexOf q.toNat ++ KBw.bInts (pk ++ val) := by
    rw [h, hexOf_pos (by omega), hb]
    have e3 : num.toNat / 16 = q.toNat := by omega
    have e4 : ((num.toNat % 16 : Nat) : Int) = r := by omega
    rw [e3, e4]
    simp
  refine ⟨by omega, by omega, hh, ?_⟩
  have hl := hexOf_len 18 _ hs
  have := congrArg List.length hh
  rw [List.length_append, KBw.ints_length] at this
  omega
theorem ap_items : ∀ m : Nat, m < 16 → Txt.item (Str.ofString "ABCDEFGHIJKLMNOP") (m : Int) = St [(65 + (m : Int)).toNat] := by decide +kernel
theorem ap_item {k : Int} (h0 : 0 ≤ k) (h1 : k < 16) : Txt.item (Str.ofString "ABCDEFGHIJKLMNOP") k = St [(65 + k).toNat] := by
  obtain ⟨m, rfl⟩ := Int.eq_ofNat_of_zero_le h0
  exact ap_items m (by omega)
/-! a list made sign by sign of a bytes' ints -/
def SrcB (prog : Program) (w : World) (A : Around) (h₀ : Heap) (L : Addr) (m : Str → Option Value) (env : Env) (elt : Expr) (x : Str) (scope : Scope) (cl : List (Str × Addr)) (Fin : Shared → List Value → List (Addr × Obj) → Prop) (xv : Value) (s₁ : Shared) : Prop :=
  ∃ b t news, xv = .bytes b t ∧ A.handled = none ∧ Fr h₀ L s₁.heap m ∧ News h₀ L s₁.heap news ∧ b.size ≤ sizeLine ∧
    ∀ s₂ : Shared, (∃ h, s₂ = { s₁ with heap := h }) → LCg.CompRest prog w A h₀ L m env elt x scope cl s₂ (fun _ => True) (fun i v => ∃ c u, b[i]? = some c ∧ v = .int (c.toNat : Int) u) (Fin s₂) b.size 0 [] news
section
variable {prog : Program} {w : World} {A : Around} {E : Value → Shared → Prop} {s : Shared} {h₀ : Heap} {L : Addr} {m : Str → Option Value} {env : Env}
theorem ListComp_B {elt iter : Expr} {x : Str} {px : Pos} {scope : Scope} {cl : List (Str × Addr)} {pos : Pos} {Q : Value → Shared → Prop} (_F₀ : Fr h₀ L s.heap m)
    (hclos : closureFor scope env = pure cl) (hcell : ∀ y ∈ scope.names, y.2 ≠ .cell) (hkind : scope.kind = .function)
    (hnames : ∀ y ∈ scope.names, y.2 = .local → scope.names.lookup y.1 = some .local) (hx : scope.names.lookup x = some .local)
    (h : wpAny (model prog w) A (eval iter env) (SrcB prog w A h₀ L m env elt x scope cl (fun s₂ => LCg.FinE h₀ L m s₂ Q)) E s)
    (hs : ∀ x, foldedSetIterable iter env x = pure x := by intro _; rfl) :
    wpAny (model prog w) A (eval (.ListComp elt [⟨.Name x px, iter, [], 0⟩] scope pos) env) Q E s := by
  rw [eval_ListComp]
  refine wpAny_comprehension_free (use := none) rfl hs hclos hkind hnames (wpAny_mono h (fun xv s₁ h₁ => ?_) fun _ _ e => e)
  obtain ⟨b, t, news, rfl, hh, F, N, hsz, R⟩ := h₁
  refine KBw.pyIter_bytes ?_
  refine LCg.block_U (S := fun _ => True) (KBw.walks hh s₁.heap.objs.size b t) hsz (fun i h st => by obtain ⟨o, e, _⟩ := st; exact ⟨o, e⟩) (fun i h h' o nw st e e' _ _ _ => by obtain ⟨o', q, r⟩ := st; rw [e] at q; cases q; exact ⟨o, e', r⟩) hcell hkind hx ⟨_, Heap.get?_push_size _ rfl, rfl, rfl⟩ (fun b hb => ?_)
    (F.keeps fun _ _ e => Heap.get?_push_of_some _ e) (N.grown fun _ _ e => Heap.get?_push_of_some _ e) (Nat.ne_of_lt F.ns.lt) (next_is_new F) (fun p hp => Nat.ne_of_lt (Heap.lt_size (N p hp).1)) trivial (R _ ⟨_, rfl⟩) ?_
  · rw [List.mem_singleton.mp hb]
    show s₁.heap.objs.size < (s₁.heap.push _).objs.size
    rw [Heap.size_push]; exact Nat.lt_succ_self _
  · intro D C h tk m' ys news' F' N' o1 hn hC₀ hD₀ hCL hDL hCD offC fin
    refine ⟨m', hn, fun h'' hs'' => fin D h'' tk (F'.change hs'' hCL hC₀) (fun p hp => ?_) o1⟩
    refine ⟨hs''.extBut _ _ ?_ (N' p hp).1, (N' p hp).2⟩
    rcases List.mem_cons.mp hp with rfl | hp
    · exact Ne.symm hCD
    · exact offC p hp
/-- the source is at hand: each int's element is a text -/
theorem srcB_texts {elt : Expr} {x : Str} {scope : Scope} {cl : List (Str × Addr)} {Q : Value → Shared → Prop} {b : Array UInt8} {t : Tok} {news : List (Addr × Obj)} {s₁ : Shared} (g : Int → Str) (ks : List Int)
    (hh : A.handled = none) (F : Fr h₀ L s₁.heap m) (N : News h₀ L s₁.heap news) (hk : KBw.bInts b = ks) (hz : ks.length ≤ 1000)
    (turn : ∀ k t I oI C oC D m₂ ys h tk (E' : Value → Shared → Prop), k ∈ ks → LCg.NsObj oC m₂ → m₂ x = some (.int k t) → Fr h₀ L h m → News h₀ L h ((I, oI) :: (C, oC) :: (D, LCg.lst ys) :: news) → LCg.Off3 I C D news → ((@Ne Nat I C) ∧ (@Ne Nat I D) ∧ (@Ne Nat C D)) → KPfMark →
      wpAny (model prog w) A (eval elt (compEnvC scope cl C env)) (LCg.CompEnd h₀ L m { s₁ with heap := h, toks := tk } I oI C oC D (LCg.lst ys) (fun _ => True) (fun y news' => KCtEl news (g k) y news')) E' { s₁ with heap := h, toks := tk })
    (fin : ∀ D ys h tk, StrsAre ys (ks.map g) → Fr h₀ L h m → News h₀ L h ((D, LCg.lst ys) :: news) → Q (.ref D) { s₁ with heap := h, toks := tk }) :
    SrcB prog w A h₀ L m env elt x scope cl (fun s₂ => LCg.FinE h₀ L m s₂ Q) (.bytes b t) s₁ := by
  refine ⟨b, t, news, rfl, hh, F, N, by rw [← KBw.ints_length b, hk, sizeLine_eq]; omega, ?_⟩
  rintro s₂ ⟨hp, rfl⟩
  subst hk
  refine kct_rest (ks := KBw.bInts b) g (KBw.ints_length b) (fun i v hi hv => ?_) (fun k t I oI C oC D m₂ ys h tk E' hk' hC hx F' N' off ne mk => turn k t I oI C oC D m₂ ys h tk E' hk' hC hx F' N' off ne mk) ?_
  · obtain ⟨c, u, e, rfl⟩ := hv
    exact ⟨_, u, KBw.ints_get e, rfl⟩
  · intro ys hc _ D h tk F' N' _
    exact fin D ys h tk (CarriedAll.strsOf hc) F' N'
theorem join_St (ks : List Int) : Txt.join (Str.ofString "") (ks.map fun k => St [k.toNat]) = St (ks.map Int.toNat) := by
  show Builtin.Str.glued (Str.ofString "") _ = _
  rw [StrLaws.glued_eq_join]
  have e : (ks.map fun k => St [k.toNat]) = (ks.map Int.toNat).map fun k => (⟨#[k]⟩ : Str) := by rw [List.map_map]; rfl
  rw [e]
  exact join_ones _
theorem join_up (ns : List Int) : Txt.join (Str.ofString "") (ns.map fun a => St [(65 + a).toNat]) = St (ns.map fun f => (65 + f).toNat) := by
  have := join_St (ns.map fun f => 65 + f)
  rw [List.map_map, List.map_map] at this
  exact this
theorem w_join {D : Addr} {ys : List Value} {ks : List Int} {t : Tok} {Q : Value → Shared → Prop} (hl : s.heap.IsList D ys.toArray) (hS : StrsAre ys (ks.map fun k => St [k.toNat])) (hz : ks.length ≤ 1000)
    (h : ∀ t' k, Q (.str (St (ks.map Int.toNat)) t') { s with toks := k }) : wpAny (model prog w) A (call (.builtin "str.join") [.str (Str.ofString "") t, .ref D]) Q E s := by
  refine KT.join_1 (l := ks) (g := fun k => St [k.toNat]) hl (by have := hS.carried; rwa [List.map_map] at this) (fun _ _ => rfl) (by omega) fun t' k _ => ?_
  rw [join_St]
  exact h t' k
end
theorem bits_all : ∀ m : Nat, m < 200 → Builtin.Int.intBits (m : Int) ≤ 64 := by decide +kernel
theorem small_bits {a : Int} (h0 : 0 ≤ a) (h1 : a < 200) : Builtin.Int.intBits a ≤ 64 := by
  obtain ⟨m, rfl⟩ := Int.eq_ofNat_of_zero_le h0
  exact bits_all m (by omega)
theorem strOk_St {l : List Nat} (h : ∀ c ∈ l, c < 128) : PyData.strOk (St l) = true := by
  unfold PyData.strOk
  simp only [St, List.all_toArray, List.all_eq_true]
  intro c hc
  have := h c hc
  simp; omega
theorem shaped_two {a b : List Nat} (ha : ∀ c ∈ a, c < 128) (hb : ∀ c ∈ b, c < 128) : SeqAt.shaped (.list [.str (St a), .str (St b)]) = true := by
  unfold SeqAt.shaped
  simp [PyData.canLay0, PyData.canLayAll0, strOk_St ha, strOk_St hb, PyData.depth, PyData.depthAll]
section
variable {prog : Program} {w : World} {A : Around} {E : Value → Shared → Prop} {s : Shared} {Q : Value → Shared → Prop}
theorem w_ne_texts {l₁ l₂ : Addr} {a b : List Nat} {t₁ t₂ t₃ t₄ : Tok} {n₁ n₂ : Nat} (h₁ : s.heap.get? l₁ = some (listOf #[.str (St a) t₁, .str (St b) t₂] n₁)) (h₂ : s.heap.get? l₂ = some (listOf #[.str (St a) t₃, .str (St b) t₄] n₂))
    (ha : ∀ c ∈ a, c < 128) (hb : ∀ c ∈ b, c < 128) (hu : A.units + 64 < cLine) (h : Q (.bool false) s) : wpAny (model prog w) A (compareOp .NotEq (.ref l₁) (.ref l₂)) Q E s := by
  refine ne_dataH (reads_list_at h₁ rfl rfl (ReadsAll.cons (Reads.str _ _) (ReadsAll.cons (Reads.str _ _) ReadsAll.nil))) (reads_list_at h₂ rfl rfl (ReadsAll.cons (Reads.str _ _) (ReadsAll.cons (Reads.str _ _) ReadsAll.nil))) (shaped_two ha hb) (shaped_two ha hb) hu ?_
  simp only [PyData.eqv, PyData.eqvAll, beq_self_eq_true, Bool.and_true, Bool.not_true]
  exact h
theorem w_ne_textsE {l₁ l₂ : Addr} {a b : List Nat} {x y : Str} {t₁ t₂ t₃ t₄ : Tok} {n₁ n₂ : Nat} (h₁ : s.heap.get? l₁ = some (listOf #[.str (St a) t₁, .str (St b) t₂] n₁)) (h₂ : s.heap.get? l₂ = some (listOf #[.str x t₃, .str y t₄] n₂))
    (ex : x = St a) (ey : y = St b) (ha : ∀ c ∈ a, c < 128) (hb : ∀ c ∈ b, c < 128) (hu : A.units + 64 < cLine) (h : Q (.bool false) s) : wpAny (model prog w) A (compareOp .NotEq (.ref l₁) (.ref l₂)) Q E s := by
  subst ex ey
  exact w_ne_texts h₁ h₂ ha hb hu h
theorem w_ne_ints {l₁ l₂ : Addr} {xs ys : List Value} {ns : List Int} (h₁ : s.heap.IsList l₁ xs.toArray) (h₂ : s.heap.IsList l₂ ys.toArray) (hi : IntsAre xs ns) (hj : IntsAre ys ns) (hu : A.units + 64 < cLine) (h : Q (.bool false) s) : wpAny (model prog w) A (compareOp .NotEq (.ref l₁) (.ref l₂)) Q E s :=
  ke_ne_ints h₁ h₂ hi hj hu (by rw [decide_eq_true rfl]; exact h)
theorem w_iadd {x y : Str} {a b : List Nat} {t u : Tok} (hx : x = St a) (hy : y = St b) (hz : a.length + b.length ≤ 1000) (h : ∀ t' k, Q (.str (St (a ++ b)) t') { s with toks := k }) : wpAny (model prog w) A (inplaceOp .Add (.str x t) (.str y u)) Q E s := by
  subst hx hy
  refine PyProof.Rows.iadd_str (fun t' k => ?_) (by rw [St_len, St_len, sizeLine_eq]; omega)
  rw [St_app]
  exact h t' k
theorem w_llen {l : Addr} {vs : List Value} {ns : List Int} {N : Nat} (hl : s.heap.IsList l vs.toArray) (hi : IntsAre vs ns) (hn : ns.length = N) (hz : N ≤ 1000) (h : ∀ k, Q (.int (N : Int) k) { s with toks := k + 1 }) : wpAny (model prog w) A (call (.builtin "len") [.ref l]) Q E s := by
  have e : vs.toArray.size = N := by rw [List.size_toArray, hi.length, hn]
  refine len_list hl (by rw [e]; omega) ?_
  rw [e]
  exact h _
end
theorem up_small {ns : List Int} (hr : ∀ f ∈ ns, 0 ≤ f ∧ f < 16) : ∀ c ∈ ns.map (fun f => (65 + f).toNat), c < 128 := by
  intro c hc
  obtain ⟨f, hf, rfl⟩ := List.mem_map.mp hc
  have := hr f hf
  omega
abbrev arnd (dp un : Nat) (gd : Option (List Code)) (outer : List Env) : Around := { handled := none, depth := dp, frames := some outer, guards := gd, units := un }

def Keeps (h h' : Heap) : Prop := ∀ b o, h.get? b = some o → h'.get? b = some o

/-- a call's end: what stood stands, and R is told of the answer -/
def Done (s : Shared) (R : Value → Heap → Prop) (v : Value) (s' : Shared) : Prop :=
  ∃ (L' : Addr) (m' : Str → Option Value) (h' : Heap) (tk : Nat), s' = { s with heap := h', toks := tk } ∧ Fr s.heap L' h' m' ∧ R v h'

/-- the contract of a def: all that stood stays, and the answer is R's -/
def Con (prog : Program) (w : World) (K : Frag) (p : Program) (loose : List Str) (mean : ExcName → Option Value) (mg mb : Str → Option Value)
    (f : Addr) (k : Nat) (s : Shared) (vs : List Value) (R : Value → Heap → Prop) : Prop :=
  ∀ (dp un : Nat) (gd : Option (List Code)) (outer : List Env) (base : Heap) (Q E : Value → Shared → Prop),
    Below (arnd dp un gd outer) base outer s.heap → K.In s.heap → Top p loose mean mg mb s.heap → dp + k < recursionLimit → un + 8 * k < cLine →
    (∀ v h' tk', Keeps s.heap h' → R v h' → Q v { s with heap := h', toks := tk' }) →
    wpAny (model prog w) (arnd dp un gd outer) (call (.ref f) vs) Q E s

section
variable {prog : Program} {w : World} {K : Frag} {p : Program} {loose : List Str} {mean : ExcName → Option Value} {mg mb : Str → Option Value} {f : Addr} {k : Nat} {s : Shared} {vs : List Value} {R : Value → Heap → Prop}

theorem con_enter {name qual : Str} {params : Arguments} {body : List Stmt} {scope : Scope} {dV kV doc pm cdv ct oc : Value} {an od : Option Addr} {osl : Array (Option Value)} {binds : List (Str × Value)}
    (hk0 : 0 < k)
    (ho : K.lookup f = some ⟨oc, od, .func (fnOf name qual params body scope dV kV doc pm an cdv ct), osl⟩) (hcd : codeIn K cdv qual = true)
    (hbind : BindsTo s (fnOf name qual params body scope dV kV doc pm an cdv ct) ⟨vs, []⟩ binds) (hloc : ∀ y ∈ binds, scope.names.lookup y.1 = some .local)
    (h : ∀ (dp un : Nat) (gd : Option (List Code)) (outer : List Env) (base : Heap) (L : Addr) (h₁ : Heap) (R' : Result → Shared → Prop),
      Fr s.heap L h₁ (fun y => binds.reverse.lookup y) → News s.heap L h₁ [] → Below (arnd dp un gd outer) base outer s.heap → K.In s.heap → Top p loose mean mg mb s.heap → dp + k < recursionLimit → un + 8 * k < cLine →
      wpAny (model prog w) ((arnd dp un gd outer).deeper (envOf qual scope L f cdv)) (execs body (envOf qual scope L f cdv))
        (fun fl s' => Done s R (match fl with | .ret v => v | _ => .none) s')
        (fun e s' => wpAny (model prog w) ((arnd dp un gd outer).deeper (envOf qual scope L f cdv)) (leaving (envOf qual scope L f cdv) e) (fun _ s'' => R' (.error e) s'') (fun e' s'' => R' (.error e') s'') s')
        { s with heap := h₁, toks := s.toks + binds.length })
    (hco : scope.isCoroutine = false) (hgen : scope.isGenerator = false) (hk : scope.kind = .function)
    (hcell : ∀ x ∈ scope.names, x.2 ≠ .cell) : Con prog w K p loose mean mg mb f k s vs R := by
  intro dp un gd outer base Q E B X T hd hu hret
  refine wpAny_call ?_
  refine codeAny_call_def (fd := fnOf name qual params body scope dV kV doc pm an cdv ct) (body := body) (binds := binds) (by show dp < recursionLimit; omega) (X _ _ ho) rfl T.nolimit (codeRec_of X hcd) rfl hbind hcell hloc (fun h₁ hns hk₁ => ?_) hco hgen hk
  refine wpAny_mono (h dp un gd outer base s.heap.objs.size h₁ (fun r s' => match r with | .ok (.ret v) => Q v s' | .ok _ => False | .error e => E e s') ⟨hns, hk₁, Nat.le_refl _⟩ News.nil B X T hd hu) (fun fl s' hl => ?_) fun _ _ y => y
  obtain ⟨L', m', h', tk, rfl, F', r⟩ := hl
  exact hret _ h' tk F'.keep r

theorem con_use {dp un : Nat} {gd : Option (List Code)} {env : Env} {outer : List Env} {A₀ : Around} {base h₀ : Heap} {L : Addr} {m : Str → Option Value} {news : List (Addr × Obj)} {Q E : Value → Shared → Prop}
    (C : Con prog w K p loose mean mg mb f k s vs R)
    (B : Below A₀ base outer h₀) (F : Fr h₀ L s.heap m) (X : K.In h₀) (N : News h₀ L s.heap news) (T : Top p loose mean mg mb h₀)
    (hf : env.frame = some L) (hke : env.scope.kind = .function) (hd : dp + k < recursionLimit) (hu : un + 8 * k < cLine)
    (h : ∀ v h' tk', R v h' → Keeps s.heap h' → Fr h₀ L h' m → News h₀ L h' news → Q v { s with heap := h', toks := tk' }) :
    wpAny (model prog w) (arnd dp un gd (env :: outer)) (call (.ref f) vs) Q E s := by
  have B₁ := pushX B F hf hke
  refine C dp un gd (env :: outer) base Q E ⟨rfl, B₁.stays, B₁.frames⟩ (X.keeps F.keep) (T.keeps F.keep) hd hu fun v h' tk' hk r => h v h' tk' r hk ?_ ?_
  · obtain ⟨oL, es, ep, hL, hLd, hLk, hLf⟩ := F.ns
    exact ⟨⟨oL, es, ep, hk _ _ hL, hLd, hLk, hLf⟩, fun b o e => hk _ _ (F.keep b o e), F.above⟩
  · exact fun q hq => ⟨hk _ _ (N q hq).1, (N q hq).2⟩

theorem con_int {x y : Int} (C : Con prog w K p loose mean mg mb f k s vs (fun v _ => ∃ t, v = .int x t)) (e : x = y) : Con prog w K p loose mean mg mb f k s vs (fun v _ => ∃ t, v = .int y t) := e ▸ C
theorem con_list {dp un : Nat} {gd : Option (List Code)} {env : Env} {outer : List Env} {A₀ : Around} {base h₀ : Heap} {L : Addr} {m : Str → Option Value} {news : List (Addr × Obj)} {Q E : Value → Shared → Prop} {ns : List Int}
    (C : Con prog w K p loose mean mg mb f k s vs (fun r h' => ∃ D vs c, r = .ref D ∧ s.heap.get? D = none ∧ h'.get? D = some (listOf vs.toArray c) ∧ IntsAre vs ns))
    (B : Below A₀ base outer h₀) (F : Fr h₀ L s.heap m) (X : K.In h₀) (N : News h₀ L s.heap news) (T : Top p loose mean mg mb h₀)
    (hf : env.frame = some L) (hke : env.scope.kind = .function) (hd : dp + k < recursionLimit) (hu : un + 8 * k < cLine)
    (h : ∀ D vs c h' tk', IntsAre vs ns → (∀ p ∈ news, p.1 ≠ D) → Fr h₀ L h' m → News h₀ L h' ((D, listOf vs.toArray c) :: news) → Q (.ref D) { s with heap := h', toks := tk' }) :
    wpAny (model prog w) (arnd dp un gd (env :: outer)) (call (.ref f) vs) Q E s := by
  refine con_use C B F X N T hf hke hd hu ?_
  rintro v h' tk' ⟨D, vs', c, rfl, hD, hg, hi⟩ hk F' N'
  obtain ⟨oL, es, ep, hL, _⟩ := F.ns
  refine h D vs' c h' tk' hi (fun q hq e => ?_) F' ?_
  · have := (N q hq).1
    rw [e, hD] at this; cases this
  · intro q hq
    rcases List.mem_cons.mp hq with rfl | hq
    · refine ⟨hg, fun e => ?_, ?_⟩
      · have e' : D = L := e
        rw [e', hL] at hD; cases hD
      · cases e : h₀.get? D with
        | none => rfl
        | some o => rw [F.keep _ _ e] at hD; cases hD
    · exact N' q hq
theorem done_intro {s : Shared} {R : Value → Heap → Prop} {v : Value} {h' : Heap} {tk : Nat} {L' : Addr} {m' : Str → Option Value} (F : Fr s.heap L' h' m') (r : R v h') : Done s R v { s with heap := h', toks := tk } :=
  ⟨L', m', h', tk, rfl, F, r⟩
theorem done_int {s : Shared} {x y : Int} {t : Tok} {h' : Heap} {tk : Nat} {L' : Addr} {m' : Str → Option Value} (F : Fr s.heap L' h' m') (e : x = y) : Done s (fun v _ => ∃ t, v = .int y t) (.int x t) { s with heap := h', toks := tk } :=
  ⟨L', m', h', tk, rfl, F, t, by rw [e]⟩
end



/-- a place where the walk halts -/
def Stop (P : Prop) : Prop := P
theorem stop {P : Prop} (h : Stop P) : P := h
theorem Stop.go {P : Prop} (h : P) : Stop P := h
theorem fr_eq {h₀ h : Heap} {L : Addr} {m m' : Str → Option Value} (F : Fr h₀ L h m) (e : ∀ z, m' z = m z) : Fr h₀ L h m' := by
  have : m' = m := funext e
  rw [this]; exact F
/-- behind a loop: one name bears an int -/
def After (h₀ : Heap) (L : Addr) (m : Str → Option Value) (news : List (Addr × Obj)) (s : Shared) (x : Str) (n : Int) (f : Flow) (s' : Shared) : Prop :=
  f = .next ∧ ∃ t h' tk', s' = { s with heap := h', toks := tk' } ∧ Fr h₀ L h' (fun y => if y = x then some (.int n t) else m y) ∧ News h₀ L h' news
theorem cut_int {M : Model} {A : Around} {E : Value → Shared → Prop} {tree : Sem Flow} {Q : Flow → Shared → Prop} {s : Shared} {h₀ : Heap} {L : Addr} {m : Str → Option Value} {news : List (Addr × Obj)} (x : Str) (n : Int)
    (F : Fr h₀ L s.heap m) (N : News h₀ L s.heap news) (walk : wpAny M A tree (After h₀ L m news s x n) E s)
    (h : ∀ t h' tk', Fr h₀ L h' (fun y => if y = x then some (.int n t) else m y) → News h₀ L h' news → Q .next { s with heap := h', toks := tk' }) : wpAny M A tree Q E s := by
  refine wpAny_mono walk (fun f s' hq => ?_) fun _ _ x => x
  obtain ⟨rfl, t, h', tk', rfl, F', N'⟩ := hq
  exact h t h' tk' F' N'
theorem after_intro {h₀ : Heap} {L : Addr} {m m' : Str → Option Value} {news news' : List (Addr × Obj)} {s : Shared} {x : Str} {n : Int} {h' : Heap} {tk' : Nat} (t : Tok) (F : Fr h₀ L h' m') (N : News h₀ L h' news') (hn : ∀ p ∈ news, p ∈ news') (e : ∀ y, (if y = x then some (Value.int n t) else m y) = m' y) :
    After h₀ L m news s x n .next { s with heap := h', toks := tk' } := ⟨rfl, t, h', tk', rfl, fr_eq F e, fun p hp => N p (hn p hp)⟩
theorem after_one {h₀ : Heap} {L : Addr} {m u : Str → Option Value} {news : List (Addr × Obj)} {s : Shared} {x : Str} {n p : Int} {t : Tok} {h' : Heap} {tk' : Nat}
    (F : Fr h₀ L h' (fun z => if z = x then some (.int p t) else if ([] : List Str).contains z = true then u z else m z)) (N : News h₀ L h' news) (e : n = p) :
    After h₀ L m news s x n .next { s with heap := h', toks := tk' } :=
  ⟨rfl, t, h', tk', rfl, fr_eq F (fun z => by rw [e]; by_cases hz : z = x <;> simp [hz]), N⟩
/-- behind a store: one name bears a value -/
def AfterV (h₀ : Heap) (L : Addr) (m : Str → Option Value) (news : List (Addr × Obj)) (s : Shared) (x : Str) (y : Tok → Value) (f : Flow) (s' : Shared) : Prop :=
  f = .next ∧ ∃ t h' tk', s' = { s with heap := h', toks := tk' } ∧ Fr h₀ L h' (fun z => if z = x then some (y t) else m z) ∧ News h₀ L h' news
theorem cut_val {M : Model} {A : Around} {E : Value → Shared → Prop} {tree : Sem Flow} {Q : Flow → Shared → Prop} {s : Shared} {h₀ : Heap} {L : Addr} {m : Str → Option Value} {news : List (Addr × Obj)} (x : Str) (y : Tok → Value)
    (_F : Fr h₀ L s.heap m) (_N : News h₀ L s.heap news) (walk : wpAny M A tree (AfterV h₀ L m news s x y) E s)
    (h : ∀ t h' tk', Fr h₀ L h' (fun z => if z = x then some (y t) else m z) → News h₀ L h' news → Q .next { s with heap := h', toks := tk' }) : wpAny M A tree Q E s := by
  refine wpAny_mono walk (fun f s' hq => ?_) fun _ _ x => x
  obtain ⟨rfl, t, h', tk', rfl, F', N'⟩ := hq
  exact h t h' tk' F' N'
theorem afterV_one {h₀ : Heap} {L : Addr} {m : Str → Option Value} {news : List (Addr × Obj)} {s : Shared} {x : Str} {y : Tok → Value} {v : Value} (t : Tok) {h' : Heap} {tk' : Nat}
    (F : Fr h₀ L h' (fun z => if z = x then some v else m z)) (N : News h₀ L h' news) (e : y t = v) :
    AfterV h₀ L m news s x y .next { s with heap := h', toks := tk' } :=
  ⟨rfl, t, h', tk', rfl, by rw [e]; exact F, N⟩
theorem afterV_str {h₀ : Heap} {L : Addr} {m : Str → Option Value} {news : List (Addr × Obj)} {s : Shared} {x : Str} {l l' : List Nat} {t : Tok} {h' : Heap} {tk' : Nat}
    (F : Fr h₀ L h' (fun z => if z = x then some (.str (St l') t) else m z)) (N : News h₀ L h' news) (e : l = l') :
    AfterV h₀ L m news s x (fun t => .str (St l) t) .next { s with heap := h', toks := tk' } :=
  afterV_one t F N (by rw [e])
/-- behind a statement: two names bear values -/
def After2 (h₀ : Heap) (L : Addr) (m : Str → Option Value) (news : List (Addr × Obj)) (s : Shared) (x₁ x₂ : Str) (y₁ y₂ : Tok → Value) (f : Flow) (s' : Shared) : Prop :=
  f = .next ∧ ∃ t₁ t₂ h' tk', s' = { s with heap := h', toks := tk' } ∧ Fr h₀ L h' (fun z => if z = x₁ then some (y₁ t₁) else if z = x₂ then some (y₂ t₂) else m z) ∧ News h₀ L h' news
theorem cut_two {M : Model} {A : Around} {E : Value → Shared → Prop} {tree : Sem Flow} {Q : Flow → Shared → Prop} {s : Shared} {h₀ : Heap} {L : Addr} {m : Str → Option Value} {news : List (Addr × Obj)} (x₁ x₂ : Str) (y₁ y₂ : Tok → Value)
    (_F : Fr h₀ L s.heap m) (_N : News h₀ L s.heap news) (walk : wpAny M A tree (After2 h₀ L m news s x₁ x₂ y₁ y₂) E s)
    (h : ∀ t₁ t₂ h' tk', Fr h₀ L h' (fun z => if z = x₁ then some (y₁ t₁) else if z = x₂ then some (y₂ t₂) else m z) → News h₀ L h' news → Q .next { s with heap := h', toks := tk' }) : wpAny M A tree Q E s := by
  refine wpAny_mono walk (fun f s' hq => ?_) fun _ _ x => x
  obtain ⟨rfl, t₁, t₂, h', tk', rfl, F', N'⟩ := hq
  exact h t₁ t₂ h' tk' F' N'
theorem after2_same {h₀ : Heap} {L : Addr} {m : Str → Option Value} {news : List (Addr × Obj)} {s : Shared} {x₁ x₂ : Str} {y₁ y₂ : Tok → Value} (t₁ t₂ : Tok) {h' : Heap} {tk' : Nat}
    (F : Fr h₀ L h' m) (N : News h₀ L h' news) (e₁ : m x₁ = some (y₁ t₁)) (e₂ : m x₂ = some (y₂ t₂)) : After2 h₀ L m news s x₁ x₂ y₁ y₂ .next { s with heap := h', toks := tk' } :=
  ⟨rfl, t₁, t₂, h', tk', rfl, fr_eq F (fun z => by
    by_cases h1 : z = x₁
    · rw [if_pos h1, h1, e₁]
    · rw [if_neg h1]
      by_cases h2 : z = x₂
      · rw [if_pos h2, h2, e₂]
      · rw [if_neg h2]), N⟩
theorem after2_set {h₀ : Heap} {L : Addr} {m : Str → Option Value} {news news' : List (Addr × Obj)} {s : Shared} {x₁ x₂ : Str} {y₁ y₂ : Tok → Value} {v₁ v₂ : Value} (t₁ t₂ : Tok) {h' : Heap} {tk' : Nat}
    (F : Fr h₀ L h' (fun z => if z = x₁ then some v₁ else if z = x₂ then some v₂ else m z)) (N : News h₀ L h' news') (hn : ∀ p ∈ news, p ∈ news') (e₁ : y₁ t₁ = v₁) (e₂ : y₂ t₂ = v₂) : After2 h₀ L m news s x₁ x₂ y₁ y₂ .next { s with heap := h', toks := tk' } :=
  ⟨rfl, t₁, t₂, h', tk', rfl, by rw [e₁, e₂]; exact F, fun p hp => N p (hn p hp)⟩
/-- behind a store: one name bears an int of which P is told -/
def AfterX (h₀ : Heap) (L : Addr) (m : Str → Option Value) (news : List (Addr × Obj)) (s : Shared) (x : Str) (P : Int → Prop) (f : Flow) (s' : Shared) : Prop :=
  f = .next ∧ ∃ z t h' tk', P z ∧ s' = { s with heap := h', toks := tk' } ∧ Fr h₀ L h' (fun y => if y = x then some (.int z t) else m y) ∧ News h₀ L h' news
theorem cut_ex {M : Model} {A : Around} {E : Value → Shared → Prop} {tree : Sem Flow} {Q : Flow → Shared → Prop} {s : Shared} {h₀ : Heap} {L : Addr} {m : Str → Option Value} {news : List (Addr × Obj)} (x : Str) (P : Int → Prop)
    (_F : Fr h₀ L s.heap m) (_N : News h₀ L s.heap news) (walk : wpAny M A tree (AfterX h₀ L m news s x P) E s)
    (h : ∀ z t h' tk', P z → Fr h₀ L h' (fun y => if y = x then some (.int z t) else m y) → News h₀ L h' news → Q .next { s with heap := h', toks := tk' }) : wpAny M A tree Q E s := by
  refine wpAny_mono walk (fun f s' hq => ?_) fun _ _ x => x
  obtain ⟨rfl, z, t, h', tk', hz, rfl, F', N'⟩ := hq
  exact h z t h' tk' hz F' N'
theorem afterX_one {h₀ : Heap} {L : Addr} {m : Str → Option Value} {news news' : List (Addr × Obj)} {s : Shared} {x : Str} {P : Int → Prop} {z : Int} {t : Tok} {h' : Heap} {tk' : Nat}
    (F : Fr h₀ L h' (fun y => if y = x then some (.int z t) else m y)) (N : News h₀ L h' news') (hn : ∀ p ∈ news, p ∈ news') (hz : P z) : AfterX h₀ L m news s x P .next { s with heap := h', toks := tk' } :=
  ⟨rfl, z, t, h', tk', hz, rfl, F, fun p hp => N p (hn p hp)⟩
structure MarkC : Prop where
  mark :: (one : True)
theorem markC : MarkC := ⟨trivial⟩
structure MarkB : Prop where
  mark :: (one : True)
theorem markB : MarkB := ⟨trivial⟩
structure MarkA : Prop where
  mark :: (one : True)
theorem markA : MarkA := ⟨trivial⟩
section
variable {prog : Program} {w : World} {K : Frag} {p : Program} {loose : List Str} {mean : ExcName → Option Value} {mg mb : Str → Option Value} {f : Addr} {k : Nat} {s : Shared} {vs : List Value} {R : Value → Heap → Prop}
/-- a def some of whose names are captured by a comprehension -/
theorem con_enterC {name qual : Str} {params : Arguments} {body : List Stmt} {scope : Scope} {dV kV doc pm cdv ct oc : Value} {an od : Option Addr} {osl : Array (Option Value)} {binds : List (Str × Value)}
    (hk0 : 0 < k)
    (ho : K.lookup f = some ⟨oc, od, .func (fnOf name qual params body scope dV kV doc pm an cdv ct), osl⟩) (hcd : codeIn K cdv qual = true)
    (hbind : BindsTo s (fnOf name qual params body scope dV kV doc pm an cdv ct) ⟨vs, []⟩ binds) (hkind : (binds.all fun y => scope.names.lookup y.1 == some .local || scope.names.lookup y.1 == some .cell) = true)
    (hnd : ((cellsFrom 0 scope.names []).map (·.1)).Nodup)
    (h : ∀ (dp un : Nat) (gd : Option (List Code)) (outer : List Env) (base : Heap) (L : Addr) (h₁ : Heap) (tk : Nat) (cells : List (Addr × Obj)) (R' : Result → Shared → Prop),
      Fr s.heap L h₁ (bindL (envOfC qual scope L f cdv).kindOf binds fun _ => none) → News s.heap L h₁ cells →
      CellsAre (bindC (envOfC qual scope L f cdv).kindOf binds fun _ => none) (cellsFrom (L + 1) scope.names []) cells → Below (arnd dp un gd outer) base outer s.heap → K.In s.heap → Top p loose mean mg mb s.heap → dp + k < recursionLimit → un + 8 * k < cLine →
      wpAny (model prog w) ((arnd dp un gd outer).deeper (envOfC qual scope L f cdv)) (execs body (envOfC qual scope L f cdv))
        (fun fl s' => Done s R (match fl with | .ret v => v | _ => .none) s')
        (fun e s' => wpAny (model prog w) ((arnd dp un gd outer).deeper (envOfC qual scope L f cdv)) (leaving (envOfC qual scope L f cdv) e) (fun _ s'' => R' (.error e) s'') (fun e' s'' => R' (.error e') s'') s')
        { s with heap := h₁, toks := tk })
    (hco : scope.isCoroutine = false) (hgen : scope.isGenerator = false) (hk : scope.kind = .function) : Con prog w K p loose mean mg mb f k s vs R := by
  intro dp un gd outer base Q E B X T hd hu hret
  refine wpAny_call ?_
  refine codeAny_call_function (fd := fnOf name qual params body scope dV kV doc pm an cdv ct) (by show dp < recursionLimit; omega) (X _ _ ho) rfl hco hgen rfl (codeRec_of X hcd) (hbind _ _ _ _ ?_)
  refine wpAny_newFunctionEnv_cells hk (kindsX hkind _) fun env' he s' x => ?_
  subst he
  refine ⟨T.nolimit.keeps x.toInCall.keep, codeAny_func ?_⟩
  obtain ⟨h₁, tk, rfl, _⟩ := x.done
  have hk₁ := x.toInCall.keep
  obtain ⟨cells, NC, Y⟩ := Cl.news (h₀ := s.heap) (Nat.le_refl _) fun n c hm => ⟨x.cell n c (lookup_of_mem_nodup (cellsFrom_names scope.names 0 (s.heap.objs.size + 1) [] [] rfl ▸ hnd) hm), x.above n c hm⟩
  refine wpAny_mono (h dp un gd outer base s.heap.objs.size h₁ tk cells (fun r s' => match r with | .ok (.ret v) => Q v s' | .ok _ => False | .error e => E e s') ⟨x.toInCall.ns, hk₁, Nat.le_refl _⟩ NC Y B X T hd hu) (fun fl s' hl => ?_) fun _ _ y => y
  obtain ⟨L', m', h', tk', rfl, F', r⟩ := hl
  exact hret _ h' tk' F'.keep r
end
/-- behind a store into a captured name -/
def AfterC2 (h₀ : Heap) (L : Addr) (m : Str → Option Value) (s : Shared) (q : Addr × Obj) (a : Addr) (P : Int → Prop) (f : Flow) (s' : Shared) : Prop :=
  f = .next ∧ ∃ z t o h' tk', P z ∧ o.data = Data.cell (some (.int z t)) ∧ s' = { s with heap := h', toks := tk' } ∧ Fr h₀ L h' m ∧ News h₀ L h' [q, (a, o)]
theorem cut_cell2 {M : Model} {A : Around} {E : Value → Shared → Prop} {tree : Sem Flow} {Q : Flow → Shared → Prop} {s : Shared} {h₀ : Heap} {L : Addr} {m : Str → Option Value} {q : Addr × Obj} {a : Addr} {o₀ : Obj} (P : Int → Prop)
    (_F : Fr h₀ L s.heap m) (_N : News h₀ L s.heap [q, (a, o₀)]) (walk : wpAny M A tree (AfterC2 h₀ L m s q a P) E s)
    (h : ∀ z t o h' tk', P z → o.data = Data.cell (some (.int z t)) → Fr h₀ L h' m → News h₀ L h' [q, (a, o)] → Q .next { s with heap := h', toks := tk' }) : wpAny M A tree Q E s := by
  refine wpAny_mono walk (fun f s' hq => ?_) fun _ _ x => x
  obtain ⟨rfl, z, t, o, h', tk', hz, ho, rfl, F', N'⟩ := hq
  exact h z t o h' tk' hz ho F' N'
theorem afterC2_one {h₀ : Heap} {L : Addr} {m : Str → Option Value} {news' : List (Addr × Obj)} {s : Shared} {q : Addr × Obj} {a : Addr} {o : Obj} {P : Int → Prop} {z : Int} {t : Tok} {h' : Heap} {tk' : Nat}
    (F : Fr h₀ L h' m) (N : News h₀ L h' news') (d : o.data = Data.cell (some (.int z t))) (hn : ∀ p ∈ [q, (a, o)], p ∈ news') (hz : P z) : AfterC2 h₀ L m s q a P .next { s with heap := h', toks := tk' } :=
  ⟨rfl, z, t, o, h', tk', hz, d, rfl, F, fun p hp => N p (hn p hp)⟩
/-- a turn's end: the state is some c again -/
def TurnEnd {σ : Type} (h₀ : Heap) (L : Addr) (Led : σ → List (Addr × Obj)) (M : σ → Str → Option Value) (P : σ → Prop) (own : List (Addr × Obj)) (s₁ : Shared) (Q : Flow → Shared → Prop) (f : Flow) (s₂ : Shared) : Prop :=
  match f with
  | .ret v => Q (.ret v) s₂
  | .brk => Q .next s₂
  | _ => ∃ (c : σ) (h' : Heap) (tk : Nat), s₂ = { s₁ with heap := h', toks := tk } ∧ Fr h₀ L h' (M c) ∧ News h₀ L h' (Led c ++ own) ∧ P c
section
variable {prog : Program} {w : World} {A : Around} {E : Value → Shared → Prop} {s : Shared} {env : Env} {h₀ : Heap} {target : Expr} {body : List Stmt} {Q : Flow → Shared → Prop}
/-- a loop over a list of the ledger, its target any -/
theorem turns_list {σ : Type} {l : Addr} {vs : List Value} {nn : Nat} {keep : List (Addr × Obj)} (Led : σ → List (Addr × Obj)) (M : σ → Str → Option Value) (P : Nat → σ → Prop) (c₀ : σ) (adr : List Addr) (hadr : ∀ c, (Led c).map (·.1) = adr)
    (hh : A.handled = none) (hl : (l, listOf vs.toArray nn) ∈ keep) (hoff : OwnOff keep adr) (F : Fr h₀ env.locals s.heap (M c₀)) (N : News h₀ env.locals s.heap (Led c₀ ++ keep)) (hp : P 0 c₀)
    (turn : ∀ i v c h tk own, vs[i]? = some v → P i c → (∀ p ∈ keep, p ∈ own) → OwnOff own adr → Fr h₀ env.locals h (M c) → News h₀ env.locals h (Led c ++ own) →
      wpAny (model prog w) A (assign target env v) (fun _ s₃ => wpAny (model prog w) A (execs body env) (TurnEnd h₀ env.locals Led M (P (i + 1)) own { s with heap := h, toks := tk } Q) E s₃) E { s with heap := h, toks := tk })
    (done : ∀ c h tk, P vs.length c → Fr h₀ env.locals h (M c) → News h₀ env.locals h (Led c ++ keep) → Q .next { s with heap := h, toks := tk }) :
    wpAny (model prog w) A (pyIter (.ref l)) (fun it s₂ => TurnsAt prog w A h₀ env target body Q E it s₂) E s := by
  have hlN : (l, listOf vs.toArray nn) ∈ Led c₀ ++ keep := List.mem_append_right _ hl
  have hol : s.heap.get? l = some (listOf vs.toArray nn) := (N _ hlN).1
  have hls : s.heap.IsList l vs.toArray := ⟨_, hol, rfl, nn, rfl⟩
  have hne : l ≠ s.heap.objs.size := Nat.ne_of_lt (Heap.lt_size hol)
  refine wpAny_pyIter_list hls ?_
  have W := Walks.list (prog := prog) (w := w) hh s.heap.objs.size l hne vs.toArray
  have hlen : vs.toArray.size = vs.length := by simp
  rw [hlen] at W
  have hsz : ∀ p ∈ Led c₀ ++ keep, p.1 ≠ s.heap.objs.size := fun p hp' e => absurd (Heap.lt_size (N p hp').1) (by rw [e]; exact Nat.lt_irrefl _)
  refine ⟨_, _, _, vs.length, _, _, _, M c₀, Led c₀ ++ keep, (fun i m nx => ∃ c, nx = Led c ++ keep ∧ m = M c ∧ P i c), rfl, KTurns.ofWalks W (fun i v s Q E st q => letGo_listiter st.1 q), ?_, ?_, ?_, ⟨⟨_, Heap.get?_push_size _ rfl, rfl, rfl⟩, hls.at fun o e => Heap.get?_push_of_some _ e⟩, F.push _, (fun p hp => ⟨Heap.get?_push_of_some _ (N p hp).1, (N p hp).2⟩), ⟨c₀, rfl, rfl, hp⟩, ?_, ?_⟩
  · intro hm
    rcases List.mem_cons.mp hm with e | hm
    · exact absurd F.ns.lt (e ▸ Nat.lt_irrefl _)
    · exact (N _ hlN).2.1 ((List.mem_singleton.mp hm).symm)
  · intro b hb
    rw [List.mem_singleton.mp hb]
    exact next_is_new F
  · intro p hp hI
    exact hsz p hp (List.mem_singleton.mp hI)
  · rintro i v m₁ news₁ h₁ tk₁ own hin hP ⟨c, rfl, rfl, hJ⟩ hnw hown hget hfp hst F₁ N₁
    have hv : vs[i]? = some v := by simpa using hP
    have N₂ : News h₀ env.locals h₁ (Led c ++ (keep ++ own.filter fun p => decide (p.1 = s.heap.objs.size))) := by
      intro p hp
      refine N₁ p ?_
      rcases List.mem_append.mp hp with h | h
      · exact List.mem_append_right _ (List.mem_append_left _ h)
      · rcases List.mem_append.mp h with h | h
        · exact List.mem_append_right _ (List.mem_append_right _ h)
        · exact List.mem_append_left _ ((List.mem_filter.mp h).1)
    have hoff₂ : OwnOff (keep ++ own.filter fun p => decide (p.1 = s.heap.objs.size)) adr := by
      intro p hp b hb e
      rcases List.mem_append.mp hp with h | h
      · exact hoff p h b hb e
      · rw [← hadr c₀] at hb
        obtain ⟨q, hq, rfl⟩ := List.mem_map.mp hb
        have h1 : p.1 = s.heap.objs.size := by simpa using (List.mem_filter.mp h).2
        exact hsz q (List.mem_append_left _ hq) (by rw [← e, h1])
    refine wpAny_mono (turn i v c h₁ tk₁ _ hv hJ (fun p hp => List.mem_append_left _ hp) hoff₂ F₁ N₂) (fun _ s₃ h₃ => wpAny_mono h₃ (fun f s₂ p => ?_) fun _ _ e => e) fun _ _ e => e
    have fin : (∃ (c' : σ) (h' : Heap) (tk : Nat), s₂ = { { s with heap := h₁, toks := tk₁ } with heap := h', toks := tk } ∧ Fr h₀ env.locals h' (M c') ∧ News h₀ env.locals h' (Led c' ++ (keep ++ own.filter fun p => decide (p.1 = s.heap.objs.size))) ∧ P (i + 1) c') →
        LoopStepU h₀ env.locals [s.heap.objs.size] own (fun m nx => ∃ c, nx = Led c ++ keep ∧ m = M c ∧ P (i + 1) c) { s with heap := h₁, toks := tk₁ } .next s₂ := by
      rintro ⟨c', h', tk, e, F', N', hP'⟩
      refine ⟨rfl, h', tk, M c', Led c' ++ keep, e, F', fun p hp => ?_, fun p hp hI => ?_, c', rfl, rfl, hP'⟩
      · rcases List.mem_append.mp hp with h | h
        · by_cases hI : p.1 = s.heap.objs.size
          · exact N' p (List.mem_append_right _ (List.mem_append_right _ (List.mem_filter.mpr ⟨h, by simpa using hI⟩)))
          · have h1 : p.1 = l := by
              rcases List.mem_cons.mp (hown p h) with h2 | h2
              · exact absurd h2 hI
              · exact List.mem_singleton.mp h2
            have h2 : h₁.get? p.1 = some p.2 := hget p h
            have hlo : h₁.get? l = some (listOf vs.toArray nn) := (N₂ _ (List.mem_append_right _ (List.mem_append_left _ hl))).1
            rw [h1, hlo] at h2
            have h3 : p = (l, listOf vs.toArray nn) := Prod.ext h1 (Option.some.inj h2).symm
            rw [h3]
            exact N' _ (List.mem_append_right _ (List.mem_append_left _ hl))
        · rcases List.mem_append.mp h with h | h
          · exact N' p (List.mem_append_left _ h)
          · exact N' p (List.mem_append_right _ (List.mem_append_left _ h))
      · have hI' := List.mem_singleton.mp hI
        rcases List.mem_append.mp hp with h | h
        · have h1 : p.1 ∈ (Led c').map (·.1) := List.mem_map.mpr ⟨p, h, rfl⟩
          rw [hadr c', ← hadr c₀] at h1
          obtain ⟨q, hq, e'⟩ := List.mem_map.mp h1
          exact hsz q (List.mem_append_left _ hq) (by rw [e', hI'])
        · exact hsz p (List.mem_append_right _ h) hI'
    cases f with
    | ret v => exact p
    | brk => exact p
    | next => exact fin p
    | cont => exact fin p
  · rintro h' tk m' news' F' N' _ ⟨c, rfl, rfl, hJ⟩
    exact done c h' tk hJ F' N'
end
theorem News.rot {h₀ h : Heap} {L : Addr} {all : List (Addr × Obj)} (n : Nat) (N : News h₀ L h all) : News h₀ L h (all.drop n ++ all.take n) := by
  intro p hp
  refine N p ?_
  rcases List.mem_append.mp hp with h | h
  · exact List.mem_of_mem_drop h
  · exact List.mem_of_mem_take h
def IsL (o : Obj) : Prop := ∃ vs n, o = listOf vs n
def IsC (o : Obj) : Prop := ∃ d, o.data = .cell d
theorem isL_off {o : Obj} (h : IsL o) (h' : IsC o) : False := by
  obtain ⟨vs, n, rfl⟩ := h
  obtain ⟨d, hd⟩ := h'
  cases hd
/-- lists lie off cells -/
theorem off_data {h₀ h : Heap} {L : Addr} {cells keep : List (Addr × Obj)} (N : News h₀ L h (cells ++ keep)) (hk : ∀ p ∈ keep, IsL p.2) (hc : ∀ p ∈ cells, IsC p.2) : OwnOff keep (cells.map (·.1)) := by
  intro p hp b hb e
  obtain ⟨q, hq, rfl⟩ := List.mem_map.mp hb
  have h1 := (N p (List.mem_append_right _ hp)).1
  have h2 := (N q (List.mem_append_left _ hq)).1
  rw [e, h2] at h1
  exact isL_off (hk p hp) (Option.some.inj h1 ▸ hc q hq)
inductive CodeL (own : List (Addr × Obj)) : List Value → List (List Int) → Prop
  | nil : CodeL own [] []
  | cons {D : Addr} {us vs : List Value} {ns : List Int} {nss : List (List Int)} : (D, listOf us.toArray 0) ∈ own → IntsAre us ns → CodeL own vs nss → CodeL own (.ref D :: vs) (ns :: nss)
theorem CodeL.mono {own own' : List (Addr × Obj)} (hs : ∀ p ∈ own, p ∈ own') : ∀ {vs : List Value} {nss : List (List Int)}, CodeL own vs nss → CodeL own' vs nss
  | _, _, .nil => .nil
  | _, _, .cons h i r => .cons (hs _ h) i (r.mono hs)
theorem CodeL.length {own : List (Addr × Obj)} : ∀ {vs : List Value} {nss : List (List Int)}, CodeL own vs nss → vs.length = nss.length
  | _, _, .nil => rfl
  | _, _, .cons _ _ r => by simp [r.length]
theorem CodeL.get {own : List (Addr × Obj)} : ∀ {vs : List Value} {nss : List (List Int)} (i : Nat) {v : Value}, CodeL own vs nss → vs[i]? = some v → ∃ D us ns, v = .ref D ∧ (D, listOf us.toArray 0) ∈ own ∧ IntsAre us ns ∧ nss[i]? = some ns
  | _, _, i, v, .nil, h => by simp at h
  | _, _, 0, v, .cons h i r, e => ⟨_, _, _, (Option.some.inj e).symm, h, i, rfl⟩
  | _, _, i + 1, v, .cons h _ r, e => by
    obtain ⟨D, us, ns, a, b, c, d⟩ := CodeL.get i r (by simpa using e)
    exact ⟨D, us, ns, a, b, c, by simpa using d⟩
/-- the nine words of the tetracode -/
def codeZ : List (List Int) := [[0, 0, 0, 0], [0, 1, 1, 2], [0, 2, 2, 1], [1, 0, 1, 1], [1, 1, 2, 0], [1, 2, 0, 2], [2, 0, 2, 2], [2, 1, 0, 1], [2, 2, 1, 0]]
/-- a frame of which one name is told -/
theorem fr_name {h₀ h : Heap} {L : Addr} {m : Str → Option Value} {x : Str} {v : Value} (F : Fr h₀ L h m) (e : m x = some v) : Fr h₀ L h (fun z => if z = x then some v else m z) :=
  fr_eq F fun z => by
    by_cases hz : z = x
    · rw [if_pos hz, hz, e]
    · rw [if_neg hz]
/-- a state of five cells -/
structure S5 where
  u : Str → Option Value
  o1 : Obj
  o2 : Obj
  o3 : Obj
  o4 : Obj
  o5 : Obj
def S5.cells (c : S5) : Prop := IsC c.o1 ∧ IsC c.o2 ∧ IsC c.o3 ∧ IsC c.o4 ∧ IsC c.o5
theorem code_at {h₀ h : Heap} {L : Addr} {m : Str → Option Value} {cells keep : List (Addr × Obj)} {P : Prop} (_F : Fr h₀ L h m) (_N : News h₀ L h (cells ++ keep))
    (k : ∀ lc vs nn, m (Str.ofString "code") = some (.ref lc) → (lc, listOf vs.toArray nn) ∈ keep → CodeL keep vs codeZ → P) (lc : Addr) (vs : List Value) (nn : Nat) (e : m (Str.ofString "code") = some (.ref lc)) (hm : (lc, listOf vs.toArray nn) ∈ keep) (C : CodeL keep vs codeZ) : P := k lc vs nn e hm C
theorem codeL_raw {own : List (Addr × Obj)} {vs : List Value} {raw : List (List Int)} (C : CodeL own vs raw) (e : raw = codeZ) : CodeL own vs codeZ := e ▸ C
section
variable {prog : Program} {w : World} {A : Around} {E : Value → Shared → Prop} {s : Shared} {env : Env} {h₀ : Heap} {target : Expr} {body : List Stmt} {Q : Flow → Shared → Prop}
def led5 (a5 a4 a3 a2 a1 : Addr) (c : S5) : List (Addr × Obj) := [(a5, c.o5), (a4, c.o4), (a3, c.o3), (a2, c.o2), (a1, c.o1)]
def map5 (x : Str) (v : Value) (c : S5) : Str → Option Value := fun z => if z = x then some v else c.u z
theorem turns5 {l : Addr} {vs : List Value} {nn : Nat} {keep : List (Addr × Obj)} {a1 a2 a3 a4 a5 : Addr} {o1 o2 o3 o4 o5 : Obj} {m : Str → Option Value} {x : Str} {v₀ : Value}
    (hh : A.handled = none) (hl : (l, listOf vs.toArray nn) ∈ keep) (F : Fr h₀ env.locals s.heap m) (e : m x = some v₀) (N : News h₀ env.locals s.heap ([(a5, o5), (a4, o4), (a3, o3), (a2, o2), (a1, o1)] ++ keep))
    (hk : ∀ p ∈ keep, IsL p.2) (hc : ∀ p ∈ [(a5, o5), (a4, o4), (a3, o3), (a2, o2), (a1, o1)], IsC p.2)
    (turn : ∀ (i : Nat) (v : Value) (u : Str → Option Value) o1 o2 o3 o4 o5 d1 d2 d3 d4 d5 h tk own, vs[i]? = some v → o1.data = .cell d1 → o2.data = .cell d2 → o3.data = .cell d3 → o4.data = .cell d4 → o5.data = .cell d5 → (∀ p ∈ keep, p ∈ own) → OwnOff own [a5, a4, a3, a2, a1] →
      Fr h₀ env.locals h (fun z => if z = x then some v₀ else u z) → News h₀ env.locals h ((a5, o5) :: (a4, o4) :: (a3, o3) :: (a2, o2) :: (a1, o1) :: own) →
      wpAny (model prog w) A (assign target env v) (fun _ s₃ => wpAny (model prog w) A (execs body env) (TurnEnd h₀ env.locals (led5 a5 a4 a3 a2 a1) (map5 x v₀) S5.cells own { s with heap := h, toks := tk } Q) E s₃) E { s with heap := h, toks := tk })
    (done : ∀ (u : Str → Option Value) o1 o2 o3 o4 o5 h tk, Fr h₀ env.locals h (fun z => if z = x then some v₀ else u z) → News h₀ env.locals h ((a5, o5) :: (a4, o4) :: (a3, o3) :: (a2, o2) :: (a1, o1) :: keep) → Q .next { s with heap := h, toks := tk }) :
    wpAny (model prog w) A (pyIter (.ref l)) (fun it s₂ => TurnsAt prog w A h₀ env target body Q E it s₂) E s := by
  refine turns_list (led5 a5 a4 a3 a2 a1) (map5 x v₀) (fun _ c => c.cells) ⟨m, o1, o2, o3, o4, o5⟩ [a5, a4, a3, a2, a1] (fun _ => rfl) hh hl (off_data N hk hc) (fr_name F e) N ?_ ?_ ?_
  · exact ⟨hc _ (.tail _ (.tail _ (.tail _ (.tail _ (.head _))))), hc _ (.tail _ (.tail _ (.tail _ (.head _)))), hc _ (.tail _ (.tail _ (.head _))), hc _ (.tail _ (.head _)), hc _ (.head _)⟩
  · rintro i v ⟨u, p1, p2, p3, p4, p5⟩ h tk own hv ⟨⟨d1, e1⟩, ⟨d2, e2⟩, ⟨d3, e3⟩, ⟨d4, e4⟩, d5, e5⟩ hs ho F' N'
    exact turn i v u p1 p2 p3 p4 p5 d1 d2 d3 d4 d5 h tk own hv e1 e2 e3 e4 e5 hs ho F' N'
  · rintro ⟨u, p1, p2, p3, p4, p5⟩ h tk _ F' N'
    exact done u p1 p2 p3 p4 p5 h tk F' N'
theorem turnEnd5 {a1 a2 a3 a4 a5 : Addr} {o1 o2 o3 o4 o5 : Obj} {d1 d2 d3 d4 d5 : Option Value} {own news' : List (Addr × Obj)} {m' : Str → Option Value} {x : Str} {v₀ : Value} {L : Addr} {s₁ : Shared} {h' : Heap} {tk : Nat}
    (F : Fr h₀ L h' m') (e : m' x = some v₀) (N : News h₀ L h' news') (h5 : (a5, o5) ∈ news') (h4 : (a4, o4) ∈ news') (h3 : (a3, o3) ∈ news') (h2 : (a2, o2) ∈ news') (h1 : (a1, o1) ∈ news') (ho : ∀ p ∈ own, p ∈ news')
    (e1 : o1.data = .cell d1) (e2 : o2.data = .cell d2) (e3 : o3.data = .cell d3) (e4 : o4.data = .cell d4) (e5 : o5.data = .cell d5) :
    TurnEnd h₀ L (led5 a5 a4 a3 a2 a1) (map5 x v₀) S5.cells own s₁ Q .next { s₁ with heap := h', toks := tk } :=
  ⟨⟨m', o1, o2, o3, o4, o5⟩, h', tk, rfl, fr_name F e, (fun p hp => by
    rcases List.mem_append.mp hp with h | h
    · simp only [led5, List.mem_cons, List.not_mem_nil, or_false] at h
      rcases h with rfl | rfl | rfl | rfl | rfl
      · exact N _ h5
      · exact N _ h4
      · exact N _ h3
      · exact N _ h2
      · exact N _ h1
    · exact N p (ho p h)), ⟨d1, e1⟩, ⟨d2, e2⟩, ⟨d3, e3⟩, ⟨d4, e4⟩, ⟨d5, e5⟩⟩
end
theorem int_at {vs : List Value} {ns : List Int} (h : IntsAre vs ns) {i : Nat} {v : Value} (hv : vs[i]? = some v) : ∃ x t, v = Value.int x t := by
  have hlt : i < ns.length := by
    rw [← h.length]; exact (List.getElem?_eq_some_iff.mp hv).1
  obtain ⟨t, ht⟩ := h.get i (ns[i]) (by simp [hlt])
  rw [ht] at hv
  exact ⟨_, t, (Option.some.inj hv).symm⟩
/-- behind a store: one name bears a list of ints, newly made -/
def AfterI (h₀ : Heap) (L : Addr) (m : Str → Option Value) (news : List (Addr × Obj)) (s : Shared) (x : Str) (P : List Int → Prop) (f : Flow) (s' : Shared) : Prop :=
  f = .next ∧ ∃ D vs c ns h' tk', P ns ∧ IntsAre vs ns ∧ s' = { s with heap := h', toks := tk' } ∧ Fr h₀ L h' (fun y => if y = x then some (.ref D) else m y) ∧ News h₀ L h' ((D, listOf vs.toArray c) :: news)
theorem cut_ints {M : Model} {A : Around} {E : Value → Shared → Prop} {tree : Sem Flow} {Q : Flow → Shared → Prop} {s : Shared} {h₀ : Heap} {L : Addr} {m : Str → Option Value} {news : List (Addr × Obj)} (x : Str) (P : List Int → Prop)
    (_F : Fr h₀ L s.heap m) (_N : News h₀ L s.heap news) (walk : wpAny M A tree (AfterI h₀ L m news s x P) E s)
    (h : ∀ D vs c ns h' tk', P ns → IntsAre vs ns → Fr h₀ L h' (fun y => if y = x then some (.ref D) else m y) → News h₀ L h' ((D, listOf vs.toArray c) :: news) → Q .next { s with heap := h', toks := tk' }) : wpAny M A tree Q E s := by
  refine wpAny_mono walk (fun f s' hq => ?_) fun _ _ x => x
  obtain ⟨rfl, D, vs, c, ns, h', tk', hp, hi, rfl, F', N'⟩ := hq
  exact h D vs c ns h' tk' hp hi F' N'
theorem afterI_one {h₀ : Heap} {L : Addr} {m : Str → Option Value} {news news' : List (Addr × Obj)} {s : Shared} {x : Str} {P : List Int → Prop} {D : Addr} {vs : List Value} {c : Nat} {ns : List Int} {h' : Heap} {tk' : Nat}
    (F : Fr h₀ L h' (fun y => if y = x then some (.ref D) else m y)) (N : News h₀ L h' news') (hm : (D, listOf vs.toArray c) ∈ news') (hn : ∀ p ∈ news, p ∈ news') (hi : IntsAre vs ns) (hp : P ns) : AfterI h₀ L m news s x P .next { s with heap := h', toks := tk' } :=
  ⟨rfl, D, vs, c, ns, h', tk', hp, hi, rfl, F, fun p hq => by
    rcases List.mem_cons.mp hq with rfl | hq
    · exact N _ hm
    · exact N p (hn p hq)⟩
/-- behind a store into a captured name: it bears a list of ints, newly made -/
def AfterCI (h₀ : Heap) (L : Addr) (m : Str → Option Value) (pre post : List (Addr × Obj)) (a : Addr) (s : Shared) (P : List Int → Prop) (f : Flow) (s' : Shared) : Prop :=
  f = .next ∧ ∃ D vs c ns o h' tk', P ns ∧ IntsAre vs ns ∧ o.data = Data.cell (some (.ref D)) ∧ s' = { s with heap := h', toks := tk' } ∧ Fr h₀ L h' m ∧ News h₀ L h' ((D, listOf vs.toArray c) :: (pre ++ (a, o) :: post))
theorem cut_cints {M : Model} {A : Around} {E : Value → Shared → Prop} {tree : Sem Flow} {Q : Flow → Shared → Prop} {s : Shared} {h₀ : Heap} {L : Addr} {m : Str → Option Value} (pre : List (Addr × Obj)) {post : List (Addr × Obj)} {a : Addr} {o₀ : Obj} (P : List Int → Prop)
    (_F : Fr h₀ L s.heap m) (_N : News h₀ L s.heap (pre ++ (a, o₀) :: post)) (walk : wpAny M A tree (AfterCI h₀ L m pre post a s P) E s)
    (h : ∀ D vs c ns o h' tk', P ns → IntsAre vs ns → o.data = Data.cell (some (.ref D)) → Fr h₀ L h' m → News h₀ L h' ((D, listOf vs.toArray c) :: (pre ++ (a, o) :: post)) → Q .next { s with heap := h', toks := tk' }) : wpAny M A tree Q E s := by
  refine wpAny_mono walk (fun f s' hq => ?_) fun _ _ x => x
  obtain ⟨rfl, D, vs, c, ns, o, h', tk', hp, hi, ho, rfl, F', N'⟩ := hq
  exact h D vs c ns o h' tk' hp hi ho F' N'
theorem afterCI_one {h₀ : Heap} {L : Addr} {m : Str → Option Value} {pre post news' : List (Addr × Obj)} {a : Addr} {s : Shared} {P : List Int → Prop} {D : Addr} {vs : List Value} {c : Nat} {ns : List Int} {o : Obj} {h' : Heap} {tk' : Nat}
    (F : Fr h₀ L h' m) (N : News h₀ L h' news') (ho : o.data = Data.cell (some (.ref D))) (hm : (D, listOf vs.toArray c) ∈ news') (ha : (a, o) ∈ news') (h1 : ∀ p ∈ pre, p ∈ news') (h2 : ∀ p ∈ post, p ∈ news') (hi : IntsAre vs ns) (hp : P ns) : AfterCI h₀ L m pre post a s P .next { s with heap := h', toks := tk' } :=
  ⟨rfl, D, vs, c, ns, o, h', tk', hp, hi, ho, rfl, F, fun p hq => by
    rcases List.mem_cons.mp hq with rfl | hq
    · exact N _ hm
    · rcases List.mem_append.mp hq with hq | hq
      · exact N p (h1 p hq)
      · rcases List.mem_cons.mp hq with rfl | hq
        · exact N _ ha
        · exact N p (h2 p hq)⟩
/-- behind a store into a captured name: it bears an int -/
def AfterCX (h₀ : Heap) (L : Addr) (m : Str → Option Value) (pre post : List (Addr × Obj)) (a : Addr) (s : Shared) (P : Int → Prop) (f : Flow) (s' : Shared) : Prop :=
  f = .next ∧ ∃ z t o h' tk', P z ∧ o.data = Data.cell (some (.int z t)) ∧ s' = { s with heap := h', toks := tk' } ∧ Fr h₀ L h' m ∧ News h₀ L h' (pre ++ (a, o) :: post)
theorem cut_cx {M : Model} {A : Around} {E : Value → Shared → Prop} {tree : Sem Flow} {Q : Flow → Shared → Prop} {s : Shared} {h₀ : Heap} {L : Addr} {m : Str → Option Value} (pre : List (Addr × Obj)) {post : List (Addr × Obj)} {a : Addr} {o₀ : Obj} (P : Int → Prop)
    (_F : Fr h₀ L s.heap m) (_N : News h₀ L s.heap (pre ++ (a, o₀) :: post)) (walk : wpAny M A tree (AfterCX h₀ L m pre post a s P) E s)
    (h : ∀ z t o h' tk', P z → o.data = Data.cell (some (.int z t)) → Fr h₀ L h' m → News h₀ L h' (pre ++ (a, o) :: post) → Q .next { s with heap := h', toks := tk' }) : wpAny M A tree Q E s := by
  refine wpAny_mono walk (fun f s' hq => ?_) fun _ _ x => x
  obtain ⟨rfl, z, t, o, h', tk', hp, ho, rfl, F', N'⟩ := hq
  exact h z t o h' tk' hp ho F' N'
theorem afterCX_one {h₀ : Heap} {L : Addr} {m : Str → Option Value} {pre post news' : List (Addr × Obj)} {a : Addr} {s : Shared} {P : Int → Prop} {z : Int} {t : Tok} {o : Obj} {h' : Heap} {tk' : Nat}
    (F : Fr h₀ L h' m) (N : News h₀ L h' news') (ho : o.data = Data.cell (some (.int z t))) (ha : (a, o) ∈ news') (h1 : ∀ p ∈ pre, p ∈ news') (h2 : ∀ p ∈ post, p ∈ news') (hp : P z) : AfterCX h₀ L m pre post a s P .next { s with heap := h', toks := tk' } :=
  ⟨rfl, z, t, o, h', tk', hp, ho, rfl, F, fun p hq => by
    rcases List.mem_append.mp hq with hq | hq
    · exact N p (h1 p hq)
    · rcases List.mem_cons.mp hq with rfl | hq
      · exact N _ ha
      · exact N p (h2 p hq)⟩
/-- a list lies off a cell -/
theorem off_cell {h₀ h : Heap} {L D a : Addr} {o : Obj} {vs : Array Value} {c : Nat} {d : Option Value} {news : List (Addr × Obj)} (N : News h₀ L h news) (h1 : (D, listOf vs c) ∈ news) (h2 : (a, o) ∈ news) (hd : o.data = .cell d) : @Ne Nat D a := by
  intro e
  have e : D = a := e
  have g1 := (N _ h1).1
  have g2 := (N _ h2).1
  have g1 : h.get? D = some (listOf vs c) := g1
  have g2 : h.get? a = some o := g2
  rw [e, g2] at g1
  have := Option.some.inj g1
  rw [this] at hd
  cases hd
def psN (q : Nat) : List Nat := (List.range 4).filter fun k => q / 2 ^ k % 2 == 0
def psZ (q : Nat) : List Int := (psN q).map fun (k : Nat) => (k : Int)
/-- the places kept, one by one -/
def keepF (y : Int) (l : List Int) (k : Int) : List Int := if (y.fdiv (2 ^ k.toNat)).fmod 2 = 0 then l ++ [k] else l
theorem keep_all : ∀ q : Nat, q < 16 → (rangeKs 0 4).foldl (keepF (q : Int)) [] = psZ q := by decide +kernel
theorem keep_mod (y : Int) (l : List Int) (k : Int) (h0 : 0 ≤ k) (h1 : k < 4) : keepF y l k = keepF (y % 16) l k := by
  have e : (y.fdiv (2 ^ k.toNat)).fmod 2 = ((y % 16).fdiv (2 ^ k.toNat)).fmod 2 := by
    have hk : k = 0 ∨ k = 1 ∨ k = 2 ∨ k = 3 := by omega
    rcases hk with rfl | rfl | rfl | rfl
    · show (y.fdiv 1).fmod 2 = ((y % 16).fdiv 1).fmod 2
      rw [Int.fdiv_eq_ediv_of_nonneg _ (by decide), Int.fmod_eq_emod_of_nonneg _ (by decide), Int.fdiv_eq_ediv_of_nonneg _ (by decide), Int.fmod_eq_emod_of_nonneg _ (by decide)]; omega
    · show (y.fdiv 2).fmod 2 = ((y % 16).fdiv 2).fmod 2
      rw [Int.fdiv_eq_ediv_of_nonneg _ (by decide), Int.fmod_eq_emod_of_nonneg _ (by decide), Int.fdiv_eq_ediv_of_nonneg _ (by decide), Int.fmod_eq_emod_of_nonneg _ (by decide)]; omega
    · show (y.fdiv 4).fmod 2 = ((y % 16).fdiv 4).fmod 2
      rw [Int.fdiv_eq_ediv_of_nonneg _ (by decide), Int.fmod_eq_emod_of_nonneg _ (by decide), Int.fdiv_eq_ediv_of_nonneg _ (by decide), Int.fmod_eq_emod_of_nonneg _ (by decide)]; omega
    · show (y.fdiv 8).fmod 2 = ((y % 16).fdiv 8).fmod 2
      rw [Int.fdiv_eq_ediv_of_nonneg _ (by decide), Int.fmod_eq_emod_of_nonneg _ (by decide), Int.fdiv_eq_ediv_of_nonneg _ (by decide), Int.fmod_eq_emod_of_nonneg _ (by decide)]; omega
  unfold keepF
  rw [e]
theorem keep_psZ (y : Int) : ∃ q, q < 16 ∧ (rangeKs 0 4).foldl (keepF y) [] = psZ q := by
  refine ⟨(y % 16).toNat, by omega, ?_⟩
  rw [← keep_all _ (by omega)]
  have e : (((y % 16).toNat : Nat) : Int) = y % 16 := by omega
  rw [e]
  have r : rangeKs 0 4 = [0, 1, 2, 3] := by decide
  rw [r]
  simp only [List.foldl_cons, List.foldl_nil]
  rw [keep_mod y _ 0 (by decide) (by decide), keep_mod y _ 1 (by decide) (by decide), keep_mod y _ 2 (by decide) (by decide), keep_mod y _ 3 (by decide) (by decide)]
structure MarkD : Prop where
  mark :: (one : True)
theorem markD : MarkD := ⟨trivial⟩
structure MarkE : Prop where
  mark :: (one : True)
theorem markE : MarkE := ⟨trivial⟩
structure MarkF : Prop where
  mark :: (one : True)
theorem markF : MarkF := ⟨trivial⟩
structure MarkG : Prop where
  mark :: (one : True)
theorem markG : MarkG := ⟨trivial⟩
section
 open PySem.SeqAt
variable {A : Around} {s : Shared}
theorem ints_eqAt {l b : Addr} {us ys : List Value} {ns ms : List Int} (hne : l ≠ b) (hl : s.heap.IsList l us.toArray) (hb : s.heap.IsList b ys.toArray) (hi : IntsAre us ns) (hj : IntsAre ys ms) (hlen : ns.length = ms.length) (hu : A.units < cLine) :
    EqAt A s (.ref l) (.ref b) (decide (ns = ms)) := by
  have h1 := hi.length
  have h2 := hj.length
  have hall : (List.range us.toArray.size).all (fun j => ns.getD j 0 == ms.getD j 0) = decide (ns = ms) := by
    rw [Bool.eq_iff_iff, List.all_eq_true, decide_eq_true_eq]
    constructor
    · intro h
      refine List.ext_getElem hlen fun i g1 g2 => ?_
      have := h i (by rw [List.mem_range, List.size_toArray]; omega)
      rw [beq_iff_eq] at this
      simpa [List.getD_eq_getElem?_getD, List.getElem?_eq_getElem g1, List.getElem?_eq_getElem g2] using this
    · rintro rfl i _
      simp
  rw [← hall]
  refine EqAt.of_refs hne (RcAt.lists hl hb (by simp; omega) hu fun j j1 j2 => ?_)
  have q1 : j < ns.length := by simpa [h1] using j1
  have q2 : j < ms.length := by simpa [h2] using j2
  obtain ⟨t, ht⟩ := hi.get j (ns.getD j 0) (by simp [q1])
  obtain ⟨u, hu'⟩ := hj.get j (ms.getD j 0) (by simp [q2])
  have e1 : us.toArray[j] = Value.int (ns.getD j 0) t := by
    have := List.getElem?_eq_some_iff.mp ht
    obtain ⟨_, e⟩ := this
    simpa using e
  have e2 : ys.toArray[j] = Value.int (ms.getD j 0) u := by
    have := List.getElem?_eq_some_iff.mp hu'
    obtain ⟨_, e⟩ := this
    simpa using e
  rw [e1, e2]
  exact EqAt.int_int _ _ _ _
theorem ints_unique {us : List Value} {ns ms : List Int} (h1 : IntsAre us ns) : IntsAre us ms → ns = ms := by
  induction h1 generalizing ms with
  | nil => intro h; cases h; rfl
  | cons n t _ ih =>
    intro h
    cases h with
    | cons _ _ h => rw [ih h]
/-- code.index(a list of ints): the first list of ints that is like it -/
theorem w_index {prog : Program} {w : World} {E : Value → Shared → Prop} {h₀ : Heap} {L l D : Addr} {vs ys : List Value} {nn c j : Nat} {nss : List (List Int)} {ms : List Int} {news own : List (Addr × Obj)} {Q : Value → Shared → Prop}
    (N : News h₀ L s.heap news) (hm : (l, listOf vs.toArray nn) ∈ news) (hC : CodeL own vs nss) (hs : ∀ p ∈ own, p ∈ news) (hD : (D, listOf ys.toArray c) ∈ news) (hi : IntsAre ys ms) (h4 : ∀ ns ∈ nss, ns.length = ms.length)
    (hj : nss[j]? = some ms) (hn : ∀ i, i < j → nss[i]? ≠ some ms) (hz : nss.length ≤ 1000) (hu : A.units + 64 < cLine)
    (h : Q (.int (j : Int) s.toks) { s with toks := s.toks + 1 }) : wpAny (model prog w) A (call (.builtin "list.index") [.ref l, .ref D]) Q E s := by
  have hlen := hC.length
  have hjl : j < vs.length := by rw [hlen]; exact (List.getElem?_eq_some_iff.mp hj).1
  have hun : A.in1.units < cLine := by
    have : A.in1.units ≤ A.units + 1 := by simp [Around.in1]
    omega
  have hDl : s.heap.IsList D ys.toArray := News.isList N hD
  -- what each item is
  have item : ∀ (i : Nat) (y : Value), vs[i]? = some y → ∃ a us ns, y = .ref a ∧ (a, listOf us.toArray 0) ∈ own ∧ IntsAre us ns ∧ nss[i]? = some ns := fun i y hy => CodeL.get i hC hy
  have uniq : ∀ (i k : Nat) (y : Value) (n₁ n₂ : List Int), vs[i]? = some y → vs[k]? = some y → nss[i]? = some n₁ → nss[k]? = some n₂ → n₁ = n₂ := by
    intro i k y n₁ n₂ hy1 hy2 h1 h2
    obtain ⟨a, us, ns, e, ha, hI, hns⟩ := item i y hy1
    obtain ⟨a', us', ns', e', ha', hI', hns'⟩ := item k y hy2
    rw [e] at e'
    cases e'
    have g1 := (N _ (hs _ ha)).1
    have g2 := (N _ (hs _ ha')).1
    have g1 : s.heap.get? a = some (listOf us.toArray 0) := g1
    have g2 : s.heap.get? a = some (listOf us'.toArray 0) := g2
    rw [g1] at g2
    have g3 := Option.some.inj g2
    have g4 : us.toArray = us'.toArray := by
      simp only [W.listOf, Obj.mk.injEq, Data.seq.injEq] at g3
      exact g3.2.2.1.1
    have g5 : us = us' := by simpa using congrArg Array.toList g4
    subst g5
    rw [hns] at h1
    rw [hns'] at h2
    rw [← Option.some.inj h1, ← Option.some.inj h2]
    exact ints_unique hI hI'
  classical
  let e : Value → Bool := fun y => decide (∃ i : Nat, vs[i]? = some y ∧ nss[i]? = some ms)
  have he : ∀ (i : Nat) (y : Value) (ns : List Int), vs[i]? = some y → nss[i]? = some ns → e y = decide (ns = ms) := by
    intro i y ns hy hns
    show decide _ = decide _
    rw [Bool.eq_iff_iff, decide_eq_true_eq, decide_eq_true_eq]
    constructor
    · rintro ⟨k, hk1, hk2⟩
      exact uniq i k y ns ms hy hk1 hns hk2
    · rintro rfl
      exact ⟨i, hy, hns⟩
  have heq : ∀ y, y ∈ vs.toArray → EqAt A.in1 s y (.ref D) (e y) := by
    intro y hy
    obtain ⟨i, hi'⟩ := List.mem_iff_getElem?.mp (by simpa using hy)
    obtain ⟨a, us, ns, rfl, ha, hI, hns⟩ := item i y hi'
    rw [he i _ ns hi' hns]
    by_cases hx : a = D
    · subst hx
      have g1 := (N _ (hs _ ha)).1
      have g2 := (N _ hD).1
      have g1 : s.heap.get? a = some (listOf us.toArray 0) := g1
      have g2 : s.heap.get? a = some (listOf ys.toArray c) := g2
      rw [g1] at g2
      have g3 := Option.some.inj g2
      have g4 : us.toArray = ys.toArray := by
        simp only [W.listOf, Obj.mk.injEq, Data.seq.injEq] at g3
        exact g3.2.2.1.1
      have g5 : us = ys := by simpa using congrArg Array.toList g4
      subst g5
      rw [decide_eq_true (ints_unique hI hi)]
      exact EqAt.same _
    · exact ints_eqAt hx (News.isList N (hs _ ha)) hDl hI hi (h4 ns (List.mem_of_getElem? hns)) hun
  have hjv : vs[j]? = some vs[j] := List.getElem?_eq_getElem hjl
  refine call_meets PySem.F.slot_list_index ⟨_, (N _ hm).1, rfl⟩ PySem.F.entry_list_index (PySem.F.args_list_index_2 _ _)
    (list_indexAt l vs.toArray nn none #[] (.ref D) e j (by simpa using hjl) (by omega) ?_ ?_) ⟨(N _ hm).1, heq, h⟩
  · have := he j vs[j] ms hjv hj
    simpa using this
  · intro m hm1 hm2
    have hm3 : m < vs.length := by simpa using hm1
    have hm4 : m < nss.length := by omega
    have := he m vs[m] nss[m] (List.getElem?_eq_getElem hm3) (List.getElem?_eq_getElem hm4)
    have hx : ¬ nss[m] = ms := fun q => hn m hm2 (by rw [List.getElem?_eq_getElem hm4, q])
    rw [decide_eq_false hx] at this
    simpa using this
end
/-- behind a statement that leaves all as it was -/
def AfterS (h₀ : Heap) (L : Addr) (m : Str → Option Value) (news : List (Addr × Obj)) (s : Shared) (f : Flow) (s' : Shared) : Prop :=
  f = .next ∧ ∃ h' tk', s' = { s with heap := h', toks := tk' } ∧ Fr h₀ L h' m ∧ News h₀ L h' news
theorem cut_same {M : Model} {A : Around} {E : Value → Shared → Prop} {tree : Sem Flow} {Q : Flow → Shared → Prop} {s : Shared} {h₀ : Heap} {L : Addr} {m : Str → Option Value} {news : List (Addr × Obj)}
    (_F : Fr h₀ L s.heap m) (_N : News h₀ L s.heap news) (walk : wpAny M A tree (AfterS h₀ L m news s) E s)
    (h : ∀ h' tk', Fr h₀ L h' m → News h₀ L h' news → Q .next { s with heap := h', toks := tk' }) : wpAny M A tree Q E s := by
  refine wpAny_mono walk (fun f s' hq => ?_) fun _ _ x => x
  obtain ⟨rfl, h', tk', rfl, F', N'⟩ := hq
  exact h h' tk' F' N'
theorem afterS_one {h₀ : Heap} {L : Addr} {m : Str → Option Value} {news news' : List (Addr × Obj)} {s : Shared} {h' : Heap} {tk' : Nat}
    (F : Fr h₀ L h' m) (N : News h₀ L h' news') (hn : ∀ p ∈ news, p ∈ news') : AfterS h₀ L m news s .next { s with heap := h', toks := tk' } :=
  ⟨rfl, h', tk', rfl, F, fun p hp => N p (hn p hp)⟩
/-! the distance without a bound, row by row, on natural numbers -/
def vOf (c x d l r : Nat) : Nat :=
  let p := (if r < l then r else l) + 2
  let q := d + (if c = x then 0 else if lowc c = lowc x then 1 else 2)
  if q < p then q else p
def inS (c : Nat) : List Nat → List Nat → Nat → Nat → List Nat
  | x :: as, r :: rs, d, l => vOf c x d l r :: inS c as rs r (vOf c x d l r)
  | _, _, _, _ => []
def lastS : List Nat → Nat → Nat
  | [], d => d
  | x :: l, _ => lastS l x
def outS (a : List Nat) : List Nat → List Nat → Nat → List Nat
  | [], row, _ => row
  | c :: bs, row, i => outS a bs (inS c a row (2 * i) (2 * i)) (i + 1)
def rowS (n : Nat) : List Nat := (List.range n).map fun i => 2 + 2 * i
def coreS (a b : List Nat) : Nat := lastS (outS a b (rowS a.length) 0) 0

def toZ (l : List Nat) : List Int := l.map fun (n : Nat) => (n : Int)
theorem toZ_len (l : List Nat) : (toZ l).length = l.length := by simp [toZ]
theorem inS_len (c : Nat) : ∀ (as rs : List Nat) (d l : Nat), as.length = rs.length → (inS c as rs d l).length = as.length
  | [], [], _, _, _ => rfl
  | [], _ :: _, _, _, h => by simp at h
  | _ :: _, [], _, _, h => by simp at h
  | x :: as, r :: rs, d, l, h => by
    simp only [inS, List.length_cons]
    rw [inS_len c as rs r _ (by simpa using h)]
theorem vOf_z (c x d l r : Nat) : ((vOf c x d l r : Nat) : Int) =
    (if (d : Int) + subc c x < (if (r : Int) < l then (r : Int) else l) + 2 then (d : Int) + subc c x else (if (r : Int) < l then (r : Int) else l) + 2) := by
  have h1 : ((if c = x then 0 else if lowc c = lowc x then 1 else 2 : Nat) : Int) = subc c x := by
    unfold subc; split
    · rfl
    · split <;> rfl
  have h2 : (((if r < l then r else l) : Nat) : Int) = if (r : Int) < l then (r : Int) else l := by
    split <;> split <;> omega
  unfold vOf
  simp only
  rw [← h1, ← h2]
  generalize (if c = x then 0 else if lowc c = lowc x then 1 else 2 : Nat) = S
  generalize (if r < l then r else l) = P
  split <;> split <;> omega
/-- the least of a row, as the walk finds it -/
def minS : List Nat → Int → Int
  | [], m => m
  | v :: l, m => minS l (if (v : Int) < m then (v : Int) else m)
theorem minS_le : ∀ (l : List Nat) (m : Int), minS l m ≤ m ∧ ∀ v ∈ l, minS l m ≤ v
  | [], m => by simp [minS]
  | v :: l, m => by
    have h := minS_le l (if (v : Int) < m then (v : Int) else m)
    simp only [minS]
    have h1 : (if (v : Int) < m then (v : Int) else m) ≤ m := by split <;> omega
    have h2 : (if (v : Int) < m then (v : Int) else m) ≤ v := by split <;> omega
    refine ⟨by omega, fun u hu => ?_⟩
    rcases List.mem_cons.mp hu with rfl | hu
    · omega
    · exact h.2 u hu
theorem cells_eq (c : Nat) (row0 : List Int) (d0 : Int) : ∀ (as rs : List Nat) (pa : List Nat) (pr : List Int) (d l : Nat) (mn : Int), as.length = rs.length → pa.length = pr.length →
    cells (pa ++ as) c row0 d0 pa.length = (pr ++ toZ rs, (d : Int), (l : Int), mn) →
    ∃ e : Int, cells (pa ++ as) c row0 d0 (pa.length + as.length) = (pr ++ toZ (inS c as rs d l), e, ((lastS (inS c as rs d l) l : Nat) : Int), minS (inS c as rs d l) mn)
  | [], [], pa, pr, d, l, mn, _, _, h => ⟨d, by simpa [inS, lastS, minS] using h⟩
  | [], _ :: _, _, _, _, _, _, h, _, _ => by simp at h
  | _ :: _, [], _, _, _, _, _, h, _, _ => by simp at h
  | x :: as, r :: rs, pa, pr, d, l, mn, hl, hp, h => by
    have hx : (pa ++ x :: as).getD pa.length 0 = x := by simp
    have hr : (pr ++ toZ (r :: rs)).getD pa.length 0 = (r : Int) := by rw [hp]; simp [toZ]
    have step : cells (pa ++ x :: as) c row0 d0 (pa.length + 1) = (pr ++ [((vOf c x d l r : Nat) : Int)] ++ toZ rs, (r : Int), ((vOf c x d l r : Nat) : Int), if ((vOf c x d l r : Nat) : Int) < mn then ((vOf c x d l r : Nat) : Int) else mn) := by
      simp only [cells, h, hx, hr]
      rw [← vOf_z]
      congr 1
      rw [hp]
      simp [toZ]
    have e1 : pa ++ x :: as = (pa ++ [x]) ++ as := by simp
    have e2 : (pa ++ [x]).length = pa.length + 1 := by simp
    rw [e1] at step ⊢
    rw [← e2] at step
    obtain ⟨e, he⟩ := cells_eq c row0 d0 as rs (pa ++ [x]) (pr ++ [((vOf c x d l r : Nat) : Int)]) r (vOf c x d l r) _ (by simpa using hl) (by simp [hp]) step
    refine ⟨e, ?_⟩
    have e3 : pa.length + (x :: as).length = (pa ++ [x]).length + as.length := by simp; omega
    rw [e3, he]
    simp [inS, lastS, minS, toZ]
theorem cells_S (a : List Nat) (c : Nat) (rs : List Nat) (d : Nat) (hl : a.length = rs.length) :
    ∃ e : Int, cells a c (toZ rs) (d : Int) a.length = (toZ (inS c a rs d d), e, ((lastS (inS c a rs d d) d : Nat) : Int), minS (inS c a rs d d) 9223372036854775807) := by
  obtain ⟨e, he⟩ := cells_eq c (toZ rs) d a rs [] [] d d 9223372036854775807 hl rfl rfl
  refine ⟨e, ?_⟩
  simpa using he
/-- the rows of the reckoning without a bound -/
def rowN (a b : List Nat) : Nat → List Nat
  | 0 => rowS a.length
  | n + 1 => inS (b.getD n 0) a (rowN a b n) (2 * n) (2 * n)
theorem rowN_len (a b : List Nat) : ∀ n, (rowN a b n).length = a.length
  | 0 => by simp [rowN, rowS]
  | n + 1 => by
    have := rowN_len a b n
    simp only [rowN]
    rw [inS_len _ _ _ _ _ this.symm]
theorem toZ_rowS (n : Nat) : toZ (rowS n) = row0 n := by
  simp [toZ, rowS, row0]
theorem vOf_ge {c x d l r : Nat} {k : Int} (hd : k ≤ d) (hl : k ≤ l) (hr : k ≤ r) : k ≤ vOf c x d l r := by
  unfold vOf
  simp only
  have hP : k ≤ ((if r < l then r else l : Nat) : Int) := by split <;> omega
  generalize (if c = x then 0 else if lowc c = lowc x then 1 else 2 : Nat) = S
  generalize (if r < l then r else l) = P at *
  split <;> omega
theorem inS_ge (c : Nat) {k : Int} : ∀ (as rs : List Nat) (d l : Nat), k ≤ d → k ≤ l → (∀ v ∈ rs, k ≤ ((v : Nat) : Int)) → ∀ v ∈ inS c as rs d l, k ≤ ((v : Nat) : Int)
  | [], _, _, _, _, _, _ => by simp [inS]
  | _ :: _, [], _, _, _, _, _ => by simp [inS]
  | x :: as, r :: rs, d, l, hd, hl, hr => by
    have h1 : k ≤ ((vOf c x d l r : Nat) : Int) := vOf_ge hd hl (hr r (by simp))
    intro v hv
    simp only [inS, List.mem_cons] at hv
    rcases hv with rfl | hv
    · exact h1
    · exact inS_ge c as rs r _ (hr r (by simp)) h1 (fun u hu => hr u (by simp [hu])) v hv
theorem inS_head {c x : Nat} {as rs : List Nat} {r d l : Nat} : vOf c x d l r ∈ inS c (x :: as) (r :: rs) d l := by simp [inS]
theorem vOf_le (c x d l r : Nat) : vOf c x d l r ≤ d + 2 := by
  unfold vOf
  simp only
  have hS : (if c = x then 0 else if lowc c = lowc x then 1 else 2 : Nat) ≤ 2 := by split <;> (try split) <;> omega
  generalize (if c = x then 0 else if lowc c = lowc x then 1 else 2 : Nat) = S at *
  generalize (if r < l then r else l) = P
  split <;> omega
/-- a row has ended the reckoning: all later ones lie above the bound -/
def Above (a b : List Nat) (m : Int) (n : Nat) : Prop := (∀ v ∈ rowN a b n, m + 1 ≤ ((v : Nat) : Int)) ∧ m + 1 ≤ 2 * (n : Int)
theorem above_s {a b : List Nat} {m : Int} {n : Nat} (h : Above a b m n) : Above a b m (n + 1) := by
  refine ⟨fun v hv => ?_, ?_⟩
  · exact inS_ge _ a _ (2 * n) (2 * n) (by have := h.2; omega) (by have := h.2; omega) h.1 v hv
  · have := h.2; omega
theorem rows_or {a b : List Nat} (ha : 0 < a.length) (m : Int) (hm : m < 9223372036854775807) : ∀ n, (rows a b m n = none ∧ Above a b m n) ∨ ∃ x, rows a b m n = some (toZ (rowN a b n), x) ∧ (0 < n → x = ((lastS (rowN a b n) 0 : Nat) : Int))
  | 0 => .inr ⟨0, by simp [rows, rowN, toZ_rowS], by simp⟩
  | n + 1 => by
    rcases rows_or (b := b) ha m hm n with ⟨h1, h2⟩ | ⟨x, h1, _⟩
    · exact .inl ⟨by simp only [rows, h1], above_s h2⟩
    · obtain ⟨e, he⟩ := cells_S a (b.getD n 0) (rowN a b n) (2 * n) (rowN_len a b n).symm
      have hd : ((n : Int) * 2) = ((2 * n : Nat) : Int) := by omega
      rw [← hd] at he
      have hnx := rows_next h1 he
      by_cases hlt : m < minS (inS (b.getD n 0) a (rowN a b n) (2 * n) (2 * n)) 9223372036854775807
      · rw [if_pos hlt] at hnx
        refine .inl ⟨hnx, fun v hv => ?_, ?_⟩
        · have hv' : v ∈ inS (b.getD n 0) a (rowN a b n) (2 * n) (2 * n) := hv
          have := (minS_le _ 9223372036854775807).2 v hv'
          omega
        · cases a with
          | nil => simp at ha
          | cons x as =>
            have hl := rowN_len (x :: as) b n
            cases hrow : rowN (x :: as) b n with
            | nil => rw [hrow] at hl; simp at hl
            | cons r rs =>
              rw [hrow] at hlt
              have h3 := (minS_le _ 9223372036854775807).2 _ (inS_head (c := b.getD n 0) (x := x) (as := as) (rs := rs) (r := r) (d := 2 * n) (l := 2 * n))
              have h4 := vOf_le (b.getD n 0) x (2 * n) (2 * n) r
              omega
      · rw [if_neg hlt] at hnx
        refine .inr ⟨_, hnx, fun _ => ?_⟩
        cases a with
        | nil => simp at ha
        | cons x as =>
          have hl := rowN_len (x :: as) b n
          cases hrow : rowN (x :: as) b n with
          | nil => rw [hrow] at hl; simp at hl
          | cons r rs => simp [rowN, hrow, inS, lastS]
theorem lastS_mem : ∀ (l : List Nat) (d : Nat), l ≠ [] → lastS l d ∈ l
  | [x], _, _ => by simp [lastS]
  | x :: y :: l, _, _ => by
    have := lastS_mem (y :: l) x (by simp)
    simp only [lastS] at this ⊢
    exact List.mem_cons_of_mem _ this
theorem outS_rowN (a b : List Nat) : ∀ (bs : List Nat) (n : Nat), b.drop n = bs → outS a bs (rowN a b n) n = rowN a b (n + bs.length)
  | [], n, _ => by simp [outS]
  | c :: bs, n, h => by
    have hc : b.getD n 0 = c := by
      have : (b.drop n)[0]? = some c := by rw [h]; rfl
      rw [List.getElem?_drop] at this
      simp only [Nat.add_zero] at this
      simp [List.getD, this]
    have hd : b.drop (n + 1) = bs := by
      have := congrArg (List.drop 1) h
      rw [List.drop_drop] at this
      simpa using this
    have ih := outS_rowN a b bs (n + 1) hd
    simp only [outS]
    have e : inS c a (rowN a b n) (2 * n) (2 * n) = rowN a b (n + 1) := by simp only [rowN, hc]
    rw [e, ih]
    congr 1
    simp; omega
theorem coreS_eq (a b : List Nat) : coreS a b = lastS (rowN a b b.length) 0 := by
  unfold coreS
  have := outS_rowN a b b 0 rfl
  simp only [rowN, Nat.zero_add] at this
  rw [this]
/-- the bounded reckoning tells the distance, or one more than the bound where that is no more than the distance -/
theorem core_or {a b : List Nat} {m : Int} (ha : 0 < a.length) (hab : a.length ≤ b.length) (hm : m < 9223372036854775807) (hlen : 2 * (b.length - a.length) ≤ coreS a b) :
    core a b m = (coreS a b : Nat) ∨ (core a b m = m + 1 ∧ m + 1 ≤ (coreS a b : Nat)) := by
  unfold core
  split
  · rename_i h
    exact .inr ⟨rfl, by omega⟩
  · rw [coreS_eq]
    have hne : rowN a b b.length ≠ [] := by
      intro h
      have := rowN_len a b b.length
      rw [h] at this; simp at this; omega
    rcases rows_or (b := b) ha m hm b.length with ⟨h1, h2⟩ | ⟨x, h1, h2⟩
    · rw [h1]
      exact .inr ⟨rfl, h2.1 _ (lastS_mem _ 0 hne)⟩
    · rw [h1]
      exact .inl (h2 (by omega))
/-- the distance of two words -/
def midS (a b : List Nat) : Nat := if a = [] ∨ b = [] then 2 * (a.length + b.length) else if b.length < a.length then coreS b a else coreS a b
def levS (a b : List Nat) : Nat :=
  if a = b then 0 else
    let a1 := a.drop (cpl a b)
    let b1 := b.drop (cpl a b)
    midS (a1.take (a1.length - cutEnd a1 b1)) (b1.take (b1.length - cutEnd a1 b1))
theorem mid_or {a b : List Nat} {m : Int} (hm : m < 9223372036854775807) (hlen : 2 * (b.length - a.length) ≤ midS a b ∧ 2 * (a.length - b.length) ≤ midS a b) :
    mid a b m = (midS a b : Nat) ∨ (mid a b m = m + 1 ∧ m + 1 ≤ (midS a b : Nat)) := by
  unfold mid midS
  unfold midS at hlen
  split
  · exact .inl (by omega)
  · rename_i hne
    rw [if_neg hne] at hlen
    have h1 : a ≠ [] := fun h => hne (.inl h)
    have h2 : b ≠ [] := fun h => hne (.inr h)
    have h3 := List.length_pos_iff.mpr h1
    have h4 := List.length_pos_iff.mpr h2
    split
    · rename_i hlt
      rw [if_pos hlt] at hlen
      exact core_or h4 (by omega) hm hlen.2
    · rename_i hlt
      rw [if_neg hlt] at hlen
      exact core_or h3 (by omega) hm hlen.1
theorem lev_or {a b : List Nat} {m : Int} (hm : m < 9223372036854775807) (hlen : 2 * (b.length - a.length) ≤ levS a b ∧ 2 * (a.length - b.length) ≤ levS a b) :
    lev a b m = (levS a b : Nat) ∨ (lev a b m = m + 1 ∧ m + 1 ≤ (levS a b : Nat)) := by
  unfold lev levS
  unfold levS at hlen
  split
  · exact .inl (by omega)
  · rename_i hne
    rw [if_neg hne] at hlen
    have hc := cpl_le a b
    have h1 := List.length_drop (i := cpl a b) (l := a)
    have h2 := List.length_drop (i := cpl a b) (l := b)
    have hq := cutEnd_le (a.drop (cpl a b)) (b.drop (cpl a b))
    refine mid_or hm ?_
    simp only [List.length_take] at hlen ⊢
    constructor
    · refine Nat.le_trans ?_ hlen.1
      omega
    · refine Nat.le_trans ?_ hlen.2
      omega
/-! the same distance in a form that the kernel reckons fast -/
noncomputable def lowF (c : Nat) : Nat := Bool.rec c (Bool.rec c (Nat.add c 32) (Nat.ble c 90)) (Nat.ble 65 c)
theorem lowF_eq (c : Nat) : lowF c = lowc c := by
  unfold lowF lowc
  by_cases h1 : 65 ≤ c
  · have e1 : Nat.ble 65 c = true := Nat.ble_eq.mpr h1
    rw [e1]
    by_cases h2 : c ≤ 90
    · have e2 : Nat.ble c 90 = true := Nat.ble_eq.mpr h2
      rw [e2, if_pos ⟨h1, h2⟩]
    · have e2 : Nat.ble c 90 = false := by
        cases h : Nat.ble c 90 with
        | false => rfl
        | true => exact absurd (Nat.ble_eq.mp h) h2
      rw [e2, if_neg (fun q => h2 q.2)]
  · have e1 : Nat.ble 65 c = false := by
      cases h : Nat.ble 65 c with
      | false => rfl
      | true => exact absurd (Nat.ble_eq.mp h) h1
    rw [e1, if_neg (fun q => h1 q.1)]
noncomputable def inF (c : Nat) (as : List Nat) : List Nat → Nat → Nat → (List Nat → Nat) → Nat :=
  List.rec (fun _ _ _ k => k []) (fun x _ ih rs d l k => List.rec (k []) (fun r rs' _ =>
    (fun p q => Bool.rec (ih rs' r q (fun o => k (q :: o))) (ih rs' r p (fun o => k (p :: o))) (Nat.ble p q))
      (Nat.add (Bool.rec r l (Nat.ble l r)) 2) (Nat.add d (Bool.rec (Bool.rec 2 1 (Nat.beq (lowF c) (lowF x))) 0 (Nat.beq c x)))) rs) as
noncomputable def outF (a b : List Nat) : List Nat → Nat → (List Nat → Nat) → Nat :=
  List.rec (fun row _ k => k row) (fun c _ ih row i k => inF c a row (Nat.mul 2 i) (Nat.mul 2 i) (fun r => ih r (Nat.add i 1) k)) b
noncomputable def lastF (l : List Nat) : Nat → Nat := List.rec (fun d => d) (fun x _ ih _ => ih x) l
noncomputable def coreF (a b : List Nat) : Nat := outF a b (rowS a.length) 0 (fun r => lastF r 0)
theorem bool_rec {α : Type} (t e : α) (b : Bool) : (Bool.rec e t b : α) = if b = true then t else e := by cases b <;> rfl
theorem val_eq (c x d l r : Nat) : (let p := Nat.add (Bool.rec (motive := fun _ => Nat) r l (Nat.ble l r)) 2
    let q := Nat.add d (Bool.rec (motive := fun _ => Nat) (Bool.rec (motive := fun _ => Nat) 2 1 (Nat.beq (lowF c) (lowF x))) 0 (Nat.beq c x))
    if Nat.ble p q = true then p else q) = vOf c x d l r := by
  simp only [bool_rec, lowF_eq, Nat.ble_eq, Nat.beq_eq]
  unfold vOf
  simp only [Nat.add_eq]
  have e1 : (if l ≤ r then l else r) = if r < l then r else l := by split <;> split <;> omega
  rw [e1]
  generalize (if c = x then 0 else if lowc c = lowc x then 1 else 2 : Nat) = S
  generalize (if r < l then r else l) = P
  split <;> split <;> omega
theorem inF_eq (c : Nat) : ∀ (as rs : List Nat) (d l : Nat) (k : List Nat → Nat), inF c as rs d l k = k (inS c as rs d l)
  | [], rs, _, _, _ => by cases rs <;> rfl
  | _ :: _, [], _, _, _ => rfl
  | x :: as, r :: rs, d, l, k => by
    have hv := val_eq c x d l r
    simp only at hv
    show (Bool.rec (motive := fun _ => Nat) (inF c as rs r _ _) (inF c as rs r _ _) (Nat.ble _ _) : Nat) = _
    rw [bool_rec, inF_eq c as rs, inF_eq c as rs]
    simp only [inS]
    rw [← hv]
    split <;> rfl
theorem outF_eq (a : List Nat) : ∀ (b row : List Nat) (i : Nat) (k : List Nat → Nat), outF a b row i k = k (outS a b row i)
  | [], _, _, _ => rfl
  | c :: b, row, i, k => by
    show inF c a row (2 * i) (2 * i) (fun r => outF a b r (i + 1) k) = _
    rw [inF_eq, outF_eq a b]
    rfl
theorem lastF_eq : ∀ (l : List Nat) (d : Nat), lastF l d = lastS l d
  | [], _ => rfl
  | x :: l, d => by show lastF l x = lastS l x; exact lastF_eq l x
theorem coreF_eq (a b : List Nat) : coreF a b = coreS a b := by
  unfold coreF coreS
  rw [outF_eq, lastF_eq]
noncomputable def midF (a b : List Nat) : Nat := if a = [] ∨ b = [] then 2 * (a.length + b.length) else if b.length < a.length then coreF b a else coreF a b
noncomputable def levF (a b : List Nat) : Nat :=
  if a = b then 0 else
    let a1 := a.drop (cpl a b)
    let b1 := b.drop (cpl a b)
    midF (a1.take (a1.length - cutEnd a1 b1)) (b1.take (b1.length - cutEnd a1 b1))
theorem midF_eq (a b : List Nat) : midF a b = midS a b := by unfold midF midS; rw [coreF_eq, coreF_eq]
theorem levF_eq (a b : List Nat) : levF a b = levS a b := by
  unfold levF levS
  split
  · rfl
  · exact midF_eq _ _
set_option maxRecDepth 100000 in
set_option maxHeartbeats 8000000 in
open_top hd for PySem.Challenge.rw_ph0053_02
set_option maxHeartbeats 8000000 in
theorem sub_con {w : World} {mean : ExcName → Option Value} {mg mb : Str → Option Value} (s : Shared) (c d : Nat) (t u : Tok) (hc : c < 128) (hd : d < 128) :
    Con PySem.Challenge.rw_ph0053_02.row.prog w (Mine.hd.heap_39 w.params) Mine.hd.view_39 (looseW Mine.hd.view_39 []) mean mg mb 21 1 s [.str (St [c]) t, .str (St [d]) u] (fun v _ => ∃ t, v = .int (subc c d) t) := by
  w_top off
  k_with_none
  k_fill
  k_dflt (refine' con_enter (binds := [(Str.ofString "ch_a", .str (St [c]) t), (Str.ofString "ch_b", .str (St [d]) u)]) ?k0 ?k6 ?k7 ?k9 ?kB ?_ ?c2 ?c3 ?c4 ?c5; (case k0 => decide); (case k6 => k_is); (case k7 => k_is); (case k9 => exact BindsTo.of_eq rfl); (case c5 => decide); (case kB => exact locs rfl); (case c2 => exact rfl); (case c3 => exact rfl); (case c4 => exact rfl))
  intro dp un gd outer base L h₁ R' F N B X T hd' hu
  have hM := kstMark
  rw [St_one, St_one] at F
  k_steps
  all_goals (dsimp only; refine done_int (by assumption) ?_; simp only [← St_one, St_beq, lower_one hc, lower_one hd, decide_eq_true_eq, decide_eq_false_iff_not, List.cons.injEq, and_true] at *; simp [subc, *])
set_option maxHeartbeats 8000000 in
theorem lev_con {w : World} {mean : ExcName → Option Value} {mg mb : Str → Option Value} (s : Shared) (la lb : List Nat) (mc : Int) (t u v : Tok) (ha : ∀ c ∈ la, c < 128) (hb : ∀ c ∈ lb, c < 128) (hla : la.length ≤ 20) (hlb : lb.length ≤ 20) (hm0 : -1000 ≤ mc) (hm1 : mc ≤ 1000) :
    Con PySem.Challenge.rw_ph0053_02.row.prog w (Mine.hd.heap_39 w.params) Mine.hd.view_39 (looseW Mine.hd.view_39 []) mean mg mb 28 2 s [.str (St la) t, .str (St lb) u, .int mc v] (fun v _ => ∃ t, v = .int (lev la lb mc) t) := by
  w_top off
  k_with_none
  k_fill
  k_dflt (refine' con_enter (binds := [(Str.ofString "a", .str (St la) t), (Str.ofString "b", .str (St lb) u), (Str.ofString "max_cost", .int mc v)]) ?k0 ?k6 ?k7 ?k9 ?kB ?_ ?c2 ?c3 ?c4 ?c5; (case k0 => decide); (case k6 => k_is); (case k7 => k_is); (case k9 => exact BindsTo.of_eq rfl); (case c5 => decide); (case kB => exact locs rfl); (case c2 => exact rfl); (case c3 => exact rfl); (case c4 => exact rfl))
  intro dp un gd outer base L h₁ R' F N B X T hd' hu
  have hM := kstMark
  k_with "exec While BoolOp cons nil" => refine stop ?_
  k_with "subscriptTail Name Slice str ref" => ((first
    | (refine' w_from (s := ⟨_, _, _, _, _⟩) ?zF ?zN ?zA ?zB ?zC ?_ ?zD ?zE; (case zA => omega); (case zB => omega))
    | (refine' w_to (s := ⟨_, _, _, _, _⟩) ?zF ?zN ?zA ?zB ?zC ?_ ?zD ?zE; (case zA => omega); (case zB => omega))
    | refine' w_all (s := ⟨_, _, _, _, _⟩) ?zF ?zN ?zC ?_ ?zD ?zE); (case zF => k_asm); (case zN => k_asm); (case zC => omega); (case zD => with_unfolding_all rfl); (case zE => intro _; with_unfolding_all rfl); intro _ _ _ _ _)
  k_with "subscriptTail Name BinOp str int" => ((refine' w_itemN ?zA ?zB ?zC ?_ ?zD ?zE; (case zA => omega); (case zB => ((try simp only [List.length_take] at *); omega)); (case zC => omega); (case zD => with_unfolding_all rfl); (case zE => intro _; with_unfolding_all rfl); intro _))
  k_with "subscriptTail Name Name str int" => ((refine' w_item ?zA ?zB ?zC ?_ ?zD ?zE; (case zA => omega); (case zB => (simp only [List.length_drop] at *; omega)); (case zC => omega); (case zD => with_unfolding_all rfl); (case zE => intro _; with_unfolding_all rfl); intro _))
  k_with "call builtin:len" => ((refine' w_len ?zC ?_; (case zC => omega); intro _))
  k_with "call type:list" => ((refine' w_rows ?zH ?zF ?zN ?zR ?zC ?_; (case zH => exact rfl); (case zF => k_asm); (case zN => k_asm); (case zR => assumption); (case zC => omega); intro D' ys' c' h' tk' F' N' l1 hI'; (try k_lt l1)))
  k_with "call ref" => ((k_dflt (refine' con_use (sub_con _ _ _ _ _ ?zc ?ze) ?zB ?zF ?zX ?zN ?zT ?zf ?zk ?zr ?zu ?_); (case zc => exact getD_lt (by assumption) _); (case ze => exact getD_lt (by assumption) _); (case zB => k_asm); (case zF => k_asm); (case zX => k_asm); (case zN => k_asm); (case zT => k_asm); (case zf => k_dflt exact rfl); (case zk => k_dflt exact rfl); (case zr => (show dp + 1 + 1 < recursionLimit); omega); (case zu => ktr_units); rintro _ _ _ ⟨_, rfl⟩ _ _ _))
  k_with "truthy str" => ((refine' w_truth ?zC ?_ ?_; (case zC => ((try simp only [List.length_drop, List.length_take]); omega)); all_goals (intro _ _)))
  k_with "compareOp Eq str str" => ((refine' w_eq ?_ ?_; all_goals (intro _)))
  k_steps
  · dsimp only
    refine done_int (by assumption) ?_
    simp [lev, *]
  · refine Stop.go (cut_int (Str.ofString "pre") (cpl la lb : Nat) (by assumption) (by assumption) ?_ ?_)
    · k_with "state" => first | exact inv1_0 _ _ | exact inv1_s (by assumption) (by assumption) (by assumption) (by assumption) (by assumption) (by assumption) (by assumption)
      k_with "measure" => (simp only [List.length_drop] at *; omega)
      k_while (fun _ pre => Inv1 la lb pre) (fun _ pre => la.length - pre.toNat) "pre"
      k_steps
      · exact after_one (by assumption) (by assumption) (inv1_e3 (by assumption) (by assumption) (by assumption) (by assumption) (by assumption))
      · exact after_one (by assumption) (by assumption) (inv1_e2 (by assumption) (by assumption) (by assumption))
      · exact after_one (by assumption) (by assumption) (inv1_e1 (by assumption) (by assumption) (by assumption))
    · intro t1 h1 tk1 F1 N1
      have hc1 := (cpl_le la lb).1
      have hc2 := (cpl_le la lb).2
      k_steps
      simp only [Int.toNat_natCast] at *
      generalize ea : la.drop (cpl la lb) = a1 at *
      generalize eb : lb.drop (cpl la lb) = b1 at *
      have hla1 : a1.length ≤ 20 := by rw [← ea, List.length_drop]; omega
      have hlb1 : b1.length ≤ 20 := by rw [← eb, List.length_drop]; omega
      have ha1 : ∀ c ∈ a1, c < 128 := fun c hc => ha c (List.mem_of_mem_drop (ea ▸ hc))
      have hb1 : ∀ c ∈ b1, c < 128 := fun c hc => hb c (List.mem_of_mem_drop (eb ▸ hc))
      have hlev : lev la lb mc = ends a1 b1 mc := by unfold lev; rw [if_neg (by assumption), ea, eb]
      rw [hlev]
      clear hlev ea eb ha hb hla hlb
      refine Stop.go (cut_int (Str.ofString "post") (-(cutEnd a1 b1 : Nat)) (by assumption) (by assumption) ?_ ?_)
      · k_with "state" => first | exact inv2_0 _ _ | exact inv2_s (by assumption) (by assumption) (by assumption) (by assumption) (by (try simp only [List.length_take] at *); omega) (by (try simp only [List.length_take] at *); omega) (by assumption)
        k_with "measure" => ((try simp only [List.length_take] at *); omega)
        k_while (fun _ post => Inv2 a1 b1 post) (fun _ post => a1.length - (-post).toNat) "post"
        k_steps
        all_goals first
          | exact after_one (by assumption) (by assumption) (inv2_e3 (by assumption) (by assumption) (by (try simp only [List.length_take] at *); omega) (by (try simp only [List.length_take] at *); omega) (by assumption))
          | exact after_one (by assumption) (by assumption) (inv2_e2 (by assumption) (by assumption) (by (try simp only [List.length_take] at *); omega))
          | exact after_one (by assumption) (by assumption) (inv2_e1 (by assumption) (by assumption) (by (try simp only [List.length_take] at *); omega))
          | (exfalso; omega)
      · intro t2 h2 tk2 F2 N2
        have hq1 := (cutEnd_le a1 b1).1
        have hq2 := (cutEnd_le a1 b1).2
        have hA := markA
        k_with "exec Assign cons Subscript" => ((rename MarkA => hA'); refine stop ?_)
        k_steps
        refine Stop.go (cut_val (Str.ofString "a") (fun t => .str (St (a1.take (a1.length - cutEnd a1 b1))) t) (by assumption) (by assumption) ?_ ?_)
        · clear hA'
          k_steps
          · exact afterV_str (by assumption) (by assumption) (by congr 1; omega)
          · exact afterV_str (by assumption) (by assumption) (List.take_of_length_le (by omega))
        · intro t3 h3 tk3 F3 N3
          k_steps
          refine Stop.go (cut_val (Str.ofString "b") (fun t => .str (St (b1.take (b1.length - cutEnd a1 b1))) t) (by assumption) (by assumption) ?_ ?_)
          · clear hA'
            k_steps
            · exact afterV_str (by assumption) (by assumption) (by congr 1; omega)
            · exact afterV_str (by assumption) (by assumption) (List.take_of_length_le (by omega))
          · clear hA'
            intro t4 h4 tk4 F4 N4
            have hends : ends a1 b1 mc = mid (a1.take (a1.length - cutEnd a1 b1)) (b1.take (b1.length - cutEnd a1 b1)) mc := rfl
            rw [hends]
            generalize ea : a1.take (a1.length - cutEnd a1 b1) = a2 at *
            generalize eb : b1.take (b1.length - cutEnd a1 b1) = b2 at *
            have hla2 : a2.length ≤ 20 := by rw [← ea, List.length_take]; omega
            have hlb2 : b2.length ≤ 20 := by rw [← eb, List.length_take]; omega
            have ha2 : ∀ c ∈ a2, c < 128 := fun c hc => ha1 c (List.mem_of_mem_take (ea ▸ hc))
            have hb2 : ∀ c ∈ b2, c < 128 := fun c hc => hb1 c (List.mem_of_mem_take (eb ▸ hc))
            clear hends ea eb ha1 hb1 hla1 hlb1
            have hB := markB
            k_with "exec If Compare cons nil" => ((rename MarkB => hB'); refine stop ?_)
            k_steps
            · refine Stop.go (cut_two (Str.ofString "a") (Str.ofString "b") (fun t => .str (St (sh a2 b2)) t) (fun t => .str (St (lg a2 b2)) t) (by assumption) (by assumption) ?_ ?_)
              · clear hB'
                k_steps
                · have e1 : sh a2 b2 = b2 := by unfold sh; rw [if_pos (by omega)]
                  have e2 : lg a2 b2 = a2 := by unfold lg; rw [if_pos (by omega)]
                  rw [e1, e2]
                  exact after2_set _ _ (by assumption) (by assumption) (fun _ h => nomatch h) rfl rfl
                · have e1 : sh a2 b2 = a2 := by unfold sh; rw [if_neg (by omega)]
                  have e2 : lg a2 b2 = b2 := by unfold lg; rw [if_neg (by omega)]
                  rw [e1, e2]
                  exact after2_same _ _ (by assumption) (by assumption) rfl rfl
              · clear hB'
                intro t5 t6 h5 tk5 F5 N5
                rw [mid_core (by assumption) (by assumption)]
                have hs0 := sh_lg a2 b2
                have hs1 : 0 < (sh a2 b2).length := by unfold sh; split <;> omega
                have hs2 : (lg a2 b2).length ≤ 20 := by unfold lg; split <;> omega
                have hs3 : ∀ c ∈ sh a2 b2, c < 128 := by unfold sh; split <;> assumption
                have hs4 : ∀ c ∈ lg a2 b2, c < 128 := by unfold lg; split <;> assumption
                generalize sh a2 b2 = sa at *
                generalize lg a2 b2 = sb at *
                have hC := markC
                k_with "pyIter ref" => ((rename MarkC => hC'); refine stop ?_)
                k_steps
                · dsimp only
                  refine done_int (by assumption) ?_
                  unfold core
                  rw [if_pos (by omega)]
                refine Stop.go ?_
                clear hC'
                k_with "pyIter ref" => (k_of "bindex" => k_state (fun pre row res => rows sa sb mc pre.length = some (row, res) ∧ row.length = sa.length) "row" "result")
                k_with "pyIter ref" => (k_of "index" => k_state_given ["row!", "bindex"] (fun r0 bi pre row dist res mn => cells sa (sb.getD bi.toNat 0) r0 (bi * 2) pre.length = (row, dist, res, mn) ∧ row.length = sa.length) "row" "distance" "result" "minimum")
                k_with "state" => first | exact ⟨rfl, row0_len _⟩ | exact ⟨rfl, by assumption⟩ | exact cells_lt (by assumption) (by assumption) (by assumption) (by assumption) | exact cells_ge (by assumption) (by assumption) (by assumption) (by assumption) | exact rows_s (by assumption) (by assumption) (by assumption) (by rw [rangeKs_length]; omega) (by assumption) (by assumption)
                k_steps
                · refine done_int (by assumption) ?_
                  exact core_early (by assumption) (by assumption) (by assumption) (by rw [rangeKs_length]; omega) (by assumption) (by omega)
                · dsimp only
                  refine done_int (by assumption) ?_
                  exact core_end (by assumption) (by rw [rangeKs_length]; omega) (by assumption)
            · refine done_int (by assumption) ?_
              unfold mid
              rw [if_pos (.inr (List.length_eq_zero_iff.mp (by assumption)))]
            · refine done_int (by assumption) ?_
              unfold mid
              rw [if_pos (.inl (List.length_eq_zero_iff.mp (by assumption)))]
set_option maxHeartbeats 8000000 in
theorem int2ap_con {w : World} {mean : ExcName → Option Value} {mg mb : Str → Option Value} (s : Shared) (n : Int) (t : Tok) (hn : n.natAbs < 16 ^ 18) :
    Con PySem.Challenge.rw_ph0053_02.row.prog w (Mine.hd.heap_39 w.params) Mine.hd.view_39 (looseW Mine.hd.view_39 []) mean mg mb 35 1 s [.int n t] (fun v _ => ∃ b t, v = .bytes b t ∧ KBw.bInts b = hexOf n.natAbs ∧ b.size ≤ 20) := by
  w_top off
  k_with_none
  k_fill
  k_dflt (refine' con_enter (binds := [(Str.ofString "num", .int n t)]) ?k0 ?k6 ?k7 ?k9 ?kB ?_ ?c2 ?c3 ?c4 ?c5; (case k0 => decide); (case k6 => k_is); (case k7 => k_is); (case k9 => exact BindsTo.of_eq rfl); (case c5 => decide); (case kB => exact locs rfl); (case c2 => exact rfl); (case c3 => exact rfl); (case c4 => exact rfl))
  intro dp un gd outer base L h₁ R' F N B X T hd' hu
  have hM := kstMark
  k_with "exec While Name cons nil" => refine stop ?_
  k_steps
  simp only [abs_ite] at *
  refine Stop.go ?_
  k_with "state" => first | exact inv3_0 _ | exact inv3_s (by assumption) (by assumption) (by assumption) (by assumption) (by assumption) rfl rfl (ap_mod _)
  k_while (fun _ num val => Inv3 n num val) (fun _ num val => num.toNat) "num" "val"
  k_with "subscriptTail Name Slice bytes ref" => (refine' KBc.slice_K (b := apB) (s := ⟨_, _, _, _, _⟩) ?zF ?zN ?zK ?zl ?zu ?zz ?_ ?zs ?zt; (case zF => k_asm); (case zN => k_asm); (case zK => exact rfl); (case zl => constructor); (case zu => constructor); (case zz => decide); (case zs => with_unfolding_all rfl); (case zt => intro _; with_unfolding_all rfl); intro _ _ _ _ _ _)
  k_with "binaryOp Add bytes bytes" => (refine' KBy.add_bytes ?zz ?_; (case zz => (rw [one_size (ap_mod _)]; omega)); intro _ _)
  k_with "measure" => (rw [Int.fdiv_eq_ediv_of_nonneg _ (by decide)]; omega)
  k_steps

  · dsimp only
    rename_i hh _ hz
    rw [hz] at hh
    exact done_intro (by assumption) ⟨_, _, rfl, by rw [hh]; simp [hexOf_zero], by assumption⟩
/-- a word's figures, and its letters -/
def figs (fr ks : List Int) : List Int := ks.map fun k => 3 * k + 1 + fr.getD k.toNat 0
def wrd (fr ks : List Int) : List Nat := (figs fr ks).map fun f => (65 + f).toNat
theorem getD_in {fr : List Int} (hf : fr.length = 4) (hr : ∀ f ∈ fr, 0 ≤ f ∧ f < 3) {k : Int} (h0 : 0 ≤ k) (h1 : k < 4) : 0 ≤ fr.getD k.toNat 0 ∧ fr.getD k.toNat 0 < 3 := by
  have hlt : k.toNat < fr.length := by omega
  have e : fr.getD k.toNat 0 = fr[k.toNat] := by simp [hlt]
  rw [e]
  exact hr _ (List.getElem_mem hlt)
theorem figs_in {fr ks : List Int} (hf : fr.length = 4) (hr : ∀ f ∈ fr, 0 ≤ f ∧ f < 3) (hk : ∀ k ∈ ks, 0 ≤ k ∧ k < 4) : ∀ f ∈ figs fr ks, 0 ≤ f ∧ f < 16 := by
  intro f h
  obtain ⟨k, hk', rfl⟩ := List.mem_map.mp h
  have h1 := hk k hk'
  have h2 := getD_in hf hr h1.1 h1.2
  omega
theorem figs_head {fr ks : List Int} (hf : fr.length = 4) (hr : ∀ f ∈ fr, 0 ≤ f ∧ f < 3) (hk : ∀ k ∈ ks, 0 ≤ k ∧ k < 4) : ∀ f r, figs fr ks = f :: r → f ≠ 0 := by
  intro f r e
  have hm : f ∈ figs fr ks := by rw [e]; exact .head _
  obtain ⟨k, hk', rfl⟩ := List.mem_map.mp hm
  have h1 := hk k hk'
  have h2 := getD_in hf hr h1.1 h1.2
  omega
theorem figs_len (fr ks : List Int) : (figs fr ks).length = ks.length := by simp [figs]
theorem num2_s {fr pre : List Int} {k : Int} : 16 * numOf (figs fr pre) + 3 * k + 1 + fr.getD k.toNat 0 = numOf (figs fr (pre ++ [k])) := by
  have : figs fr (pre ++ [k]) = figs fr pre ++ [3 * k + 1 + fr.getD k.toNat 0] := by simp [figs]
  rw [this, numOf_snoc]
  omega
theorem w_litem {prog : Program} {w : World} {A : Around} {E : Value → Shared → Prop} {s : Shared} {value slice : PySem.Expr} {l : Addr} {vs : List Value} {ns : List Int} {i : Int} {u : Tok} {Q : Value → Shared → Prop}
    (hl : s.heap.IsList l vs.toArray) (hi : IntsAre vs ns) (h0 : 0 ≤ i) (h1 : i < ns.length) (hz : ns.length ≤ 1000) (h : ∀ t, Q (.int (ns.getD i.toNat 0) t) s)
    (hs : subscripted slice false (.ref l) (.int i u) = operate [.ref l, .int i u] (getItem (.ref l) (.int i u))) :
    wpAny (model prog w) A (subscriptTail value slice (.ref l) (.int i u)) Q E s := by
  obtain ⟨t, ht⟩ := hi.get i.toNat (ns.getD i.toNat 0) (by
    have hlt : i.toNat < ns.length := by omega
    simp [hlt])
  exact tail_any hl.typeIs slot_list_getitem.lookup (wpAny_getItem_list hl h0 (by omega) (by simpa using ht) (h t)) hs
set_option maxHeartbeats 8000000 in
theorem word2_con {w : World} {mean : ExcName → Option Value} {mg mb : Str → Option Value} (s : Shared) (l₁ l₂ : Addr) (vs us : List Value) (fr ks : List Int) (sign : Int) (t : Tok) (hl₁ : s.heap.IsList l₁ vs.toArray) (hi₁ : IntsAre vs fr) (hl₂ : s.heap.IsList l₂ us.toArray) (hi₂ : IntsAre us ks)
    (hf : fr.length = 4) (hr : ∀ f ∈ fr, 0 ≤ f ∧ f < 3) (hk : ∀ k ∈ ks, 0 ≤ k ∧ k < 4) (hz : ks.length ≤ 4) (hs : sign = 1 ∨ sign = -1) :
    Con PySem.Challenge.rw_ph0053_02.row.prog w (Mine.hd.heap_39 w.params) Mine.hd.view_39 (looseW Mine.hd.view_39 []) mean mg mb 40 2 s [.ref l₁, .ref l₂, .int sign t] (fun v _ => ∃ t, v = .str (St (wrd fr ks)) t) := by
  w_top off
  k_with_none
  k_fill
  k_dflt (refine' con_enter (binds := [(Str.ofString "row", .ref l₁), (Str.ofString "kept", .ref l₂), (Str.ofString "sign", .int sign t)]) ?k0 ?k6 ?k7 ?k9 ?kB ?_ ?c2 ?c3 ?c4 ?c5; (case k0 => decide); (case k6 => k_is); (case k7 => k_is); (case k9 => exact BindsTo.of_eq rfl); (case c5 => decide); (case kB => exact locs rfl); (case c2 => exact rfl); (case c3 => exact rfl); (case c4 => exact rfl))
  intro dp un gd outer base L h₁ R' F N B X T hd' hu
  have hM := kstMark
  k_with "pyIter ref" => (k_of "place" => k_state (fun pre number => number = numOf (figs fr pre)) "number")
  k_with "state" => first | exact rfl | (subst_vars; exact num2_s)
  k_with "subscriptTail Name Name ref int" => (have hk9 := hk _ (by assumption); refine' w_litem ?zL hi₁ hk9.1 (by omega) (by omega) ?_ ?zs; (case zL => is_list); (case zs => with_unfolding_all rfl); intro _)
  k_with "eval ListComp" => (k_dflt (refine ListComp_B (_F₀ := by k_asm) (by with_unfolding_all rfl) (by decide) (by rfl) (by decide) (by rfl) ?_))
  have hr' := figs_in hf hr hk
  have hb := num_small hr' (by rw [figs_len]; omega)
  have hl9 := num_letters hs hr' (figs_head hf hr hk)
  k_with "call ref" => (k_dflt (refine' con_use (int2ap_con _ _ _ ?zc) ?zB ?zF ?zX ?zN ?zT ?zf ?zk ?zr ?zu ?_); (case zc => (subst_vars; rw [sign_num hs hb.1]; omega)); (case zB => k_asm); (case zF => k_asm); (case zX => k_asm); (case zN => k_asm); (case zT => k_asm); (case zf => k_dflt exact rfl); (case zk => k_dflt exact rfl); (case zr => (show dp + 1 + 1 < recursionLimit); omega); (case zu => ktr_units); rintro _ _ _ ⟨b', tb, rfl, hb', hbz⟩ _ _ _)
  k_steps
  subst_vars
  rw [hl9] at *
  refine srcB_texts (fun k => St [k.toNat]) ((figs fr ks).map (fun f => 65 + f)) rfl (by assumption) (by assumption) (by assumption) (by rw [List.length_map, figs_len]; omega) ?_ ?_
  · intro k t I oI C oC D m₂ ys h tk E' hk hC hx F' N' off ne mk
    simp only [LCg.Off3, and_true] at off
    have hk2 := letter_in hr' hk
    k_steps
    exact ⟨rfl, _, rfl⟩
  · intro D ys h tk hS F' N'
    k_steps
    refine w_join (News.isList N' (List.Mem.head _)) hS (by rw [List.length_map, figs_len]; omega) fun t' k => ?_
    refine done_intro F' ⟨t', ?_⟩
    rw [List.map_map]
    rfl
theorem am_items : ∀ m : Nat, m < 13 → Txt.item (Str.ofString "ABCDEFGHIJKLM") (m : Int) = St [(65 + (m : Int)).toNat] := by decide +kernel
theorem am_item {k : Int} (h0 : 0 ≤ k) (h1 : k < 13) : Txt.item (Str.ofString "ABCDEFGHIJKLM") k = St [(65 + k).toNat] := by
  obtain ⟨m, rfl⟩ := Int.eq_ofNat_of_zero_le h0
  exact am_items m (by omega)
theorem join_wrd (fr ks : List Int) : Txt.join (Str.ofString "") (ks.map fun k => St [(65 + (3 * k + 1 + fr.getD k.toNat 0)).toNat]) = St (wrd fr ks) := by
  have := join_up (figs fr ks)
  rw [figs, List.map_map] at this
  exact this
section
local macro_rules | `(tactic| walk_at $s:str) => `(tactic| k_extra $s)
set_option maxHeartbeats 8000000 in
theorem letters2_con {w : World} {mean : ExcName → Option Value} {mg mb : Str → Option Value} (s : Shared) (l₁ l₂ : Addr) (vs us : List Value) (fr ks : List Int) (hl₁ : s.heap.IsList l₁ vs.toArray) (hi₁ : IntsAre vs fr) (hl₂ : s.heap.IsList l₂ us.toArray) (hi₂ : IntsAre us ks)
    (hf : fr.length = 4) (hr : ∀ f ∈ fr, 0 ≤ f ∧ f < 3) (hk : ∀ k ∈ ks, 0 ≤ k ∧ k < 4) (hz : ks.length ≤ 4) :
    Con PySem.Challenge.rw_ph0053_02.row.prog w (Mine.hd.heap_39 w.params) Mine.hd.view_39 (looseW Mine.hd.view_39 []) mean mg mb 45 2 s [.ref l₁, .ref l₂] (fun v _ => ∃ t, v = .str (St (wrd fr ks)) t) := by
  w_top off
  k_with_none
  k_fill
  k_dflt (refine' con_enterC (binds := [(Str.ofString "row", .ref l₁), (Str.ofString "kept", .ref l₂)]) ?k0 ?k6 ?k7 ?k9 ?kB ?kD ?_ ?c2 ?c3 ?c4; (case k0 => decide); (case k6 => k_is); (case k7 => k_is); (case k9 => exact BindsTo.of_eq rfl); (case kB => exact rfl); (case kD => decide +kernel); (case c2 => exact rfl); (case c3 => exact rfl); (case c4 => exact rfl))
  intro dp un gd outer base L h₁ tk cells R' F N Y B X T hd' hu
  k_cells Y
  have hM := kstMark
  have hlz := hi₂.length
  k_with "eval ListComp" => (k_dflt (refine LCg.ListComp_U (F₀ := by k_asm) (by with_unfolding_all rfl) (by decide) (by rfl) (by decide) (by rfl) ?_))
  k_with "CompSrc" => refine stop ?_
  k_steps
  refine Stop.go ?_
  refine LCg.CompSrc.base rfl (by assumption) (by assumption) hl₂ (by rw [List.size_toArray, hlz, sizeLine_eq]; omega) fun g => ?_
  refine kct_list (fun k => St [(65 + (3 * k + 1 + fr.getD k.toNat 0)).toNat]) hi₂ ?_ ?_
  · intro k t I oI C oC D m₂ ys h tk E' hk' hC hx F' N' off ne mk
    simp only [LCg.Off3] at off
    have hk2 := hk k hk'
    have hk3 := getD_in hf hr hk2.1 hk2.2
    k_with "subscriptTail Name Name ref int" => (refine' w_litem ?zL hi₁ hk2.1 (by rw [hf]; omega) (by omega) ?_ ?zs; (case zL => is_list); (case zs => with_unfolding_all rfl); intro _)
    k_steps
    exact ⟨rfl, _, by rw [am_item (by omega) (by omega)]⟩
  · intro ys hc _ D h tk F' N' _
    have hS := CarriedAll.strsOf hc
    k_steps
    exact done_intro F' ⟨_, by rw [join_wrd]⟩
end
def faultZ (s t : Int) : List Int := if s = t then [s, 0, 0, 0] else if t = 0 then [0, 0, -s, 0] else if s = 0 then [0, 0, 0, -t] else [0, s, 0, 0]
theorem fmod3 (x : Int) : 0 ≤ x.fmod 3 ∧ x.fmod 3 < 3 := by
  rw [Int.fmod_eq_emod_of_nonneg _ (by decide)]; omega
theorem fmod9 (x : Int) : 0 ≤ x.fmod 9 ∧ x.fmod 9 < 9 := by
  rw [Int.fmod_eq_emod_of_nonneg _ (by decide)]; omega
theorem ints4 {vs : List Value} {a b c d : Int} (h : IntsAre vs [a, b, c, d]) : ∃ t u v w, vs = [Value.int a t, Value.int b u, Value.int c v, Value.int d w] := by
  cases h with
  | cons _ t h => cases h with
    | cons _ u h => cases h with
      | cons _ v h => cases h with
        | cons _ w h => cases h with
          | nil => exact ⟨t, u, v, w, rfl⟩
def mendF (f g : List Int) (k : Int) : Int := (f.getD k.toNat 0 - g.getD k.toNat 0).fmod 3
def harmF (g : List Int) (l : List Int) (k : Int) : List Int := if g.getD k.toNat 0 ≠ 0 then l ++ [k] else l
theorem faultZ_len (s t : Int) : (faultZ s t).length = 4 := by
  unfold faultZ; split
  · rfl
  · split
    · rfl
    · split <;> rfl
theorem psZ_in {q : Nat} : ∀ k ∈ psZ q, 0 ≤ k ∧ k < 4 := by
  intro k hk
  obtain ⟨j, hj, rfl⟩ := List.mem_map.mp hk
  have := (List.mem_filter.mp hj).1
  have := List.mem_range.mp this
  omega
theorem psZ_len (q : Nat) : (psZ q).length ≤ 4 := by
  unfold psZ psN
  rw [List.length_map]
  have := List.length_filter_le (fun k => q / 2 ^ k % 2 == 0) (List.range 4)
  simpa using this
local macro_rules | `(tactic| walk_at "exec Assign cons ListComp") => `(tactic| (rename MarkA => hA9; refine stop ?_))
local macro_rules | `(tactic| walk_at "CompSrc") => `(tactic| (rename MarkC => hC9; refine stop ?_))
local macro_rules | `(tactic| walk_at "CompSrcT") => `(tactic| (rename MarkC => hC9; refine stop ?_))
local macro_rules | `(tactic| walk_at "eval ListComp") => `(tactic| (rename MarkB => hB9; refine stop ?_))
local macro_rules | `(tactic| walk_at "call builtin:len") => `(tactic| (rename MarkE => hE9; refine stop ?_))
structure MarkH : Prop where
  mark :: (one : True)
theorem markH : MarkH := ⟨trivial⟩
/-- a fact laid aside -/
def Hid (p : Prop) : Prop := p
theorem hid {p : Prop} (h : p) : Hid p := h
theorem unhid {p : Prop} (h : Hid p) : p := h
def restZ (h l : Int) : List Int :=
  if h ≠ 0 ∧ l = 0 then [2, 4, 4, 4, 6, 6, 6, 8, 8]
  else if h ≠ 0 ∧ l = 1 then [2, 2, 2, 4, 4, 4, 6, 6, 6]
  else if l = 0 then [0, 6, 6, 6, 6, 6, 6, 6, 6] else if l = 1 then [0, 4, 4, 4, 4, 4, 4, 6, 6] else if l = 2 then [0, 2, 2, 2, 2, 4, 4, 4, 4] else if l = 3 then [0, 0, 0, 2, 2, 2, 2, 2, 2] else [0, 0, 0, 0, 0, 0, 0, 0, 0]
theorem restZ_0 : [0, 6, 6, 6, 6, 6, 6, 6, 6] = restZ 0 0 := by decide
theorem restZ_1 : [0, 4, 4, 4, 4, 4, 4, 6, 6] = restZ 0 1 := by decide
theorem restZ_2 : [0, 2, 2, 2, 2, 4, 4, 4, 4] = restZ 0 2 := by decide
theorem restZ_3 : [0, 0, 0, 2, 2, 2, 2, 2, 2] = restZ 0 3 := by decide
theorem restZ_4 : (List.replicate (Int.toNat 9) [(0 : Int)]).flatten = restZ 0 4 := by decide
theorem restN_0 {h : Int} (e : ¬ h = 0) : [2, 4, 4, 4, 6, 6, 6, 8, 8] = restZ h 0 := by rw [restZ, if_pos ⟨e, rfl⟩]
theorem restN_1 {h : Int} (e : ¬ h = 0) : [2, 2, 2, 4, 4, 4, 6, 6, 6] = restZ h 1 := by rw [restZ, if_neg (fun q => absurd q.2 (by decide)), if_pos ⟨e, rfl⟩]
theorem restN_2 {h : Int} : [0, 2, 2, 2, 2, 4, 4, 4, 4] = restZ h 2 := by rw [restZ, if_neg (fun q => absurd q.2 (by decide)), if_neg (fun q => absurd q.2 (by decide)), if_neg (by decide), if_neg (by decide), if_pos rfl]
theorem restN_3 {h : Int} : [0, 0, 0, 2, 2, 2, 2, 2, 2] = restZ h 3 := by rw [restZ, if_neg (fun q => absurd q.2 (by decide)), if_neg (fun q => absurd q.2 (by decide)), if_neg (by decide), if_neg (by decide), if_neg (by decide), if_pos rfl]
theorem restN_4 {h : Int} : (List.replicate (Int.toNat 9) [(0 : Int)]).flatten = restZ h 4 := by
  rw [restZ, if_neg (fun q => absurd q.2 (by decide)), if_neg (fun q => absurd q.2 (by decide)), if_neg (by decide), if_neg (by decide), if_neg (by decide), if_neg (by decide)]; rfl
theorem iteT {c : Prop} [Decidable c] {p q : Prop} (h : c) (hp : p) : if c then p else q := by rw [if_pos h]; exact hp
theorem iteF {c : Prop} [Decidable c] {p q : Prop} (h : ¬ c) (hq : q) : if c then p else q := by rw [if_neg h]; exact hq
local macro_rules | `(tactic| walk_at "ite") => `(tactic| ((rename MarkH => hH9); (with_reducible show (if ((OfNat.ofNat _ : Int) == OfNat.ofNat _) = true then _ else _)); first | refine iteT (by decide) ?_ | refine iteF (by decide) ?_))
local macro_rules | `(tactic| walk_at "ite") => `(tactic| ((rename MarkH => hH9); (with_reducible show (if true = true then _ else _)); refine iteT rfl ?_))
local macro_rules | `(tactic| walk_at "ite") => `(tactic| ((rename MarkH => hH9); (with_reducible show (if false = true then _ else _)); refine iteF Bool.false_ne_true ?_))
local macro_rules | `(tactic| walk_at "ite") => `(tactic| ((rename MarkH => hH9); (with_reducible show (if ((_ : Int) != _) = true then _ else _)); refine iteT (bne_iff_ne.mpr (by assumption)) ?_))
local macro_rules | `(tactic| walk_at "ite") => `(tactic| ((rename MarkH => hH9); (with_reducible show (if ((OfNat.ofNat _ : Int) != OfNat.ofNat _) = true then _ else _)); first | refine iteT (by decide) ?_ | refine iteF (by decide) ?_))
theorem allLt_mem {d : Addr} : ∀ {l : List (Addr × Obj)}, AllLt d l → ∀ p ∈ l, @LT.lt Nat _ p.1 d
  | [], _, _, h => nomatch h
  | _ :: _, h, _, .head _ => h.1
  | _ :: _, h, _, .tail _ m => allLt_mem h.2 _ m
theorem ownOff_list {h₀ h : Heap} {L D : Addr} {vs : Array Value} {c : Nat} {news cells keep : List (Addr × Obj)} (N : News h₀ L h news) (hc : ∀ q ∈ cells, q ∈ news ∧ IsC q.2) (ho : OwnOff keep (cells.map (·.1))) (hm : (D, listOf vs c) ∈ news) :
    OwnOff ((D, listOf vs c) :: keep) (cells.map (·.1)) := by
  intro p hp b hb
  rcases List.mem_cons.mp hp with rfl | hp
  · obtain ⟨q, hq, rfl⟩ := List.mem_map.mp hb
    obtain ⟨h1, d, hd⟩ := hc q hq
    exact off_cell N hm (show (q.1, q.2) ∈ news from h1) hd
  · exact ho p hp b hb
theorem ownOff_lt {keep : List (Addr × Obj)} {lt : Addr} {adr : List Addr} (h : ∀ p ∈ keep, @LT.lt Nat _ p.1 lt) (ho : OwnOff keep adr) : OwnOff keep (lt :: adr) := by
  intro p hp b hb e
  rcases List.mem_cons.mp hb with rfl | hb
  · have := h p hp
    rw [e] at this
    exact absurd this (Nat.lt_irrefl _)
  · exact ho p hp b hb e
theorem lt_cons {lt : Addr} {q : Addr × Obj} {keep : List (Addr × Obj)} (h : @LT.lt Nat _ q.1 lt) (r : ∀ p ∈ keep, @LT.lt Nat _ p.1 lt) : ∀ p ∈ q :: keep, @LT.lt Nat _ p.1 lt := by
  intro p hp
  rcases List.mem_cons.mp hp with rfl | hp
  · exact h
  · exact r p hp
theorem News.swap5 {h₀ hp : Heap} {L : Addr} {x a b c d e f g h i j : Addr × Obj} {own : List (Addr × Obj)} (N : News h₀ L hp (x :: a :: b :: c :: d :: e :: f :: g :: h :: i :: j :: own)) : News h₀ L hp (x :: [f, g, h, i, j] ++ (a :: b :: c :: d :: e :: own)) := by
  intro p q
  simp only [List.cons_append, List.nil_append, List.mem_cons] at q
  refine N p ?_
  simp only [List.mem_cons]
  rcases q with q | q | q | q | q | q | q | q | q | q | q | q <;> simp [q]
theorem own6 {h₀ h : Heap} {L lt Dr Dm Dx Dp Df a1 a2 a3 a4 a5 : Addr} {T o1 o2 o3 o4 o5 : Obj} {vr vm vx vp vf : Array Value} {cr cm cx cp cf : Nat} {d1 d2 d3 d4 d5 : Option Value} {own : List (Addr × Obj)}
    (N : News h₀ L h ((lt, T) :: (Dr, listOf vr cr) :: (Dm, listOf vm cm) :: (Dx, listOf vx cx) :: (Dp, listOf vp cp) :: (Df, listOf vf cf) :: (a5, o5) :: (a4, o4) :: (a3, o3) :: (a2, o2) :: (a1, o1) :: own))
    (e5 : o5.data = .cell d5) (e4 : o4.data = .cell d4) (e3 : o3.data = .cell d3) (e2 : o2.data = .cell d2) (e1 : o1.data = .cell d1) (ho : OwnOff own [a5, a4, a3, a2, a1])
    (hlt : AllLt lt ((Dr, listOf vr cr) :: (Dm, listOf vm cm) :: (Dx, listOf vx cx) :: (Dp, listOf vp cp) :: (Df, listOf vf cf) :: (a5, o5) :: (a4, o4) :: (a3, o3) :: (a2, o2) :: (a1, o1) :: own)) :
    OwnOff ((Dr, listOf vr cr) :: (Dm, listOf vm cm) :: (Dx, listOf vx cx) :: (Dp, listOf vp cp) :: (Df, listOf vf cf) :: own) (lt :: [(a5, o5), (a4, o4), (a3, o3), (a2, o2), (a1, o1)].map (·.1)) := by
  have hc : ∀ q ∈ [(a5, o5), (a4, o4), (a3, o3), (a2, o2), (a1, o1)], q ∈ ((lt, T) :: (Dr, listOf vr cr) :: (Dm, listOf vm cm) :: (Dx, listOf vx cx) :: (Dp, listOf vp cp) :: (Df, listOf vf cf) :: (a5, o5) :: (a4, o4) :: (a3, o3) :: (a2, o2) :: (a1, o1) :: own) ∧ IsC q.2 :=
    List.forall_mem_cons.mpr ⟨⟨by simp, _, e5⟩, List.forall_mem_cons.mpr ⟨⟨by simp, _, e4⟩, List.forall_mem_cons.mpr ⟨⟨by simp, _, e3⟩, List.forall_mem_cons.mpr ⟨⟨by simp, _, e2⟩, List.forall_mem_cons.mpr ⟨⟨by simp, _, e1⟩, List.forall_mem_nil _⟩⟩⟩⟩⟩
  refine ownOff_lt ?_ (ownOff_list N hc (ownOff_list N hc (ownOff_list N hc (ownOff_list N hc (ownOff_list N hc ho (by simp)) (by simp)) (by simp)) (by simp)) (by simp))
  have hm := allLt_mem hlt
  intro p hp
  refine hm p ?_
  simp only [List.mem_cons] at hp ⊢
  rcases hp with q | q | q | q | q | q <;> simp [q]
theorem fr_some {h₀ h : Heap} {L : Addr} {m : Str → Option Value} {l : List Str} (F : Fr h₀ L h m) : Fr h₀ L h (fun z => if l.contains z then m z else m z) := fr_eq F fun z => by split <;> rfl
def led6 (lt : Addr) (cells : List (Addr × Obj)) (c : (Str → Option Value) × List Value × Nat) : List (Addr × Obj) := (lt, listOf c.2.1.toArray c.2.2) :: cells
def map6 (l : List Str) (m : Str → Option Value) (c : (Str → Option Value) × List Value × Nat) : Str → Option Value := fun z => if l.contains z then c.1 z else m z
theorem turns6 {prog : Program} {w : World} {A : Around} {E : Value → Shared → Prop} {s : Shared} {env : Env} {h₀ : Heap} {target : Expr} {body : List Stmt} {Q : Flow → Shared → Prop} {l lt : Addr} {vs : List Value} {nn k : Nat} {cells keep : List (Addr × Obj)} {m : Str → Option Value} (st : List Str) (T : List Int)
    (hh : A.handled = none) (hl : (l, listOf vs.toArray nn) ∈ keep) (F : Fr h₀ env.locals s.heap m) (N : News h₀ env.locals s.heap ((lt, listOf (#[] : Array Value) k) :: cells ++ keep)) (hT : T.length = vs.length)
    (ho : OwnOff keep (lt :: cells.map (·.1)))
    (turn : ∀ (i : Nat) (v : Value) (u : Str → Option Value) (ys : List Value) (n : Nat) h tk own, vs[i]? = some v → IntsAre ys (T.take i) → i < vs.length → (∀ p ∈ keep, p ∈ own) → OwnOff own (lt :: cells.map (·.1)) →
      Fr h₀ env.locals h (fun z => if st.contains z then u z else m z) → News h₀ env.locals h ((lt, listOf ys.toArray n) :: cells ++ own) →
      wpAny (model prog w) A (assign target env v) (fun _ s₃ => wpAny (model prog w) A (execs body env) (TurnEnd h₀ env.locals (led6 lt cells) (map6 st m) (fun c => IntsAre c.2.1 (T.take (i + 1))) own { s with heap := h, toks := tk } Q) E s₃) E { s with heap := h, toks := tk })
    (done : ∀ (u : Str → Option Value) (ys : List Value) (n : Nat) h tk, IntsAre ys T → Fr h₀ env.locals h (fun z => if st.contains z then u z else m z) → News h₀ env.locals h ((lt, listOf ys.toArray n) :: cells ++ keep) → Q .next { s with heap := h, toks := tk }) :
    wpAny (model prog w) A (pyIter (.ref l)) (fun it s₂ => TurnsAt prog w A h₀ env target body Q E it s₂) E s := by
  refine turns_list (led6 lt cells) (map6 st m) (fun i c => IntsAre c.2.1 (T.take i)) (m, [], k) (lt :: cells.map (·.1)) (fun _ => rfl) hh hl ho (fr_some F) N .nil ?_ ?_
  · rintro i v ⟨u, ys, n⟩ h tk own hv hp hs hoff F' N'
    exact turn i v u ys n h tk own hv hp (List.getElem?_eq_some_iff.mp hv).1 hs hoff F' N'
  · rintro ⟨u, ys, n⟩ h tk hp F' N'
    refine done u ys n h tk ?_ F' N'
    have hp : IntsAre ys (T.take vs.length) := hp
    rwa [← hT, List.take_length] at hp
def farZ (bd pr : Int) (A B : List Nat) : Int := lev (if pr = 0 then A else B) (if 1 - pr = 0 then A else B) bd
def tellZ (bd pr : Int) (fr ks ns : List Int) : Int := if farZ bd pr (wrd fr ks) (wrd ns [0, 1, 2, 3]) < bd + 1 then farZ bd pr (wrd fr ks) (wrd ns [0, 1, 2, 3]) else bd + 1
theorem code_ok : ∀ ns ∈ codeZ, ns.length = 4 ∧ ∀ f ∈ ns, 0 ≤ f ∧ f < 3 := by decide
theorem wrd_len (fr ks : List Int) : (wrd fr ks).length = ks.length := by simp [wrd, figs]
theorem wrd_small {fr ks : List Int} (hf : fr.length = 4) (hr : ∀ f ∈ fr, 0 ≤ f ∧ f < 3) (hk : ∀ k ∈ ks, 0 ≤ k ∧ k < 4) : ∀ c ∈ wrd fr ks, c < 128 := up_small (figs_in hf hr hk)
theorem k4_in : ∀ k ∈ ([0, 1, 2, 3] : List Int), 0 ≤ k ∧ k < 4 := by decide
theorem fig4 {f0 f1 f2 f3 : Int} (p00 : 0 ≤ f0) (p01 : f0 < 3) (p10 : 0 ≤ f1) (p11 : f1 < 3) (p20 : 0 ≤ f2) (p21 : f2 < 3) (p30 : 0 ≤ f3) (p31 : f3 < 3) : ∀ f ∈ [f0, f1, f2, f3], 0 ≤ f ∧ f < 3 := by
  intro f h
  simp only [List.mem_cons, List.not_mem_nil, or_false] at h
  rcases h with rfl | rfl | rfl | rfl
  · exact ⟨p00, p01⟩
  · exact ⟨p10, p11⟩
  · exact ⟨p20, p21⟩
  · exact ⟨p30, p31⟩
theorem w_pick {prog : Program} {w : World} {A : Around} {E : Value → Shared → Prop} {s : Shared} {value slice : PySem.Expr} {l : Addr} {a b : List Nat} {t u : Tok} {i : Int} {ti : Tok} {Q : Value → Shared → Prop}
    (hl : s.heap.IsList l #[.str (St a) t, .str (St b) u]) (hi : i = 0 ∨ i = 1) (h : ∀ t', Q (.str (St (if i = 0 then a else b)) t') s)
    (hs : subscripted slice false (.ref l) (.int i ti) = operate [.ref l, .int i ti] (getItem (.ref l) (.int i ti))) :
    wpAny (model prog w) A (subscriptTail value slice (.ref l) (.int i ti)) Q E s := by
  rcases hi with rfl | rfl
  · exact tail_any hl.typeIs slot_list_getitem.lookup (wpAny_getItem_list hl (by decide) (by decide) (x := .str (St a) t) rfl (h t)) hs
  · exact tail_any hl.typeIs slot_list_getitem.lookup (wpAny_getItem_list hl (by decide) (by decide) (x := .str (St b) u) rfl (h u)) hs
theorem getE_snoc {T : List Int} {i : Nat} {ys : List Value} {z : Int} {t : Tok} (hy : IntsAre ys (T.take i)) (hz : T[i]? = some z) : IntsAre (ys ++ [Value.int z t]) (T.take (i + 1)) := by
  rw [List.take_add_one, hz]
  exact IntsAre.append hy (.cons z t .nil)
theorem fmod2 (x : Int) : x.fmod 2 = 0 ∨ x.fmod 2 = 1 := by
  rw [Int.fmod_eq_emod_of_nonneg _ (by decide)]; omega
theorem if_small {a b : List Nat} {p : Prop} [Decidable p] (ha : ∀ c ∈ a, c < 128) (hb : ∀ c ∈ b, c < 128) : ∀ c ∈ (if p then a else b), c < 128 := by split <;> assumption
theorem if_len {a b : List Nat} {p : Prop} [Decidable p] {n : Nat} (ha : a.length ≤ n) (hb : b.length ≤ n) : (if p then a else b).length ≤ n := by split <;> assumption
local macro_rules | `(tactic| walk_at "exec For Name Name cons nil") => `(tactic| (rename MarkG => hA9; refine stop ?_))
local macro_rules | `(tactic| walk_at "pyIter ref") => `(tactic| (rename MarkB => hA9; refine stop ?_))
/-! law 2 by residues -/
def codeW : List (List Nat) := [[66, 69, 72, 75], [66, 70, 73, 77], [66, 71, 74, 76], [67, 69, 73, 76], [67, 70, 74, 75], [67, 71, 72, 77], [68, 69, 74, 77], [68, 70, 72, 76], [68, 71, 73, 75]]
theorem codeW_eq : codeZ.map (fun ns => wrd ns [0, 1, 2, 3]) = codeW := by decide +kernel
/-- a word of natural figures -/
def wN (f ks : List Nat) : List Nat := ks.map fun k => 66 + 3 * k + f.getD k 0
theorem wN_eq (f ks : List Nat) : wrd (f.map fun (n : Nat) => (n : Int)) (ks.map fun (k : Nat) => (k : Int)) = wN f ks := by
  unfold wrd figs wN
  rw [List.map_map, List.map_map]
  refine List.map_congr_left fun k _ => ?_
  have e : (f.map fun (n : Nat) => (n : Int)).getD k 0 = ((f.getD k 0 : Nat) : Int) := by
    simp only [List.getD_eq_getElem?_getD, List.getElem?_map]
    cases f[k]? <;> rfl
  show (65 + (3 * ((k : Nat) : Int) + 1 + (f.map fun (n : Nat) => (n : Int)).getD ((k : Nat) : Int).toNat 0)).toNat = _
  rw [Int.toNat_natCast, e]
  omega
noncomputable def dS (A : List Nat) : List Nat := codeW.map fun B => levF A B
noncomputable def dT (A : List Nat) : List Nat := codeW.map fun B => levF B A
def restN (h l : Nat) : List Nat :=
  bif !Nat.beq h 0 && Nat.beq l 0 then [2, 4, 4, 4, 6, 6, 6, 8, 8]
  else bif !Nat.beq h 0 && Nat.beq l 1 then [2, 2, 2, 4, 4, 4, 6, 6, 6]
  else bif Nat.beq l 0 then [0, 6, 6, 6, 6, 6, 6, 6, 6] else bif Nat.beq l 1 then [0, 4, 4, 4, 4, 4, 4, 6, 6] else bif Nat.beq l 2 then [0, 2, 2, 2, 2, 4, 4, 4, 4] else bif Nat.beq l 3 then [0, 0, 0, 2, 2, 2, 2, 2, 2] else [0, 0, 0, 0, 0, 0, 0, 0, 0]
def fxZ (a b c d : Nat) : List Int := faultZ (((a : Int) + b - c).fmod 3) (((a : Int) + 2 * b - d).fmod 3)
def msZ (a b c d : Nat) : List Int := (rangeKs 0 4).map (mendF [(a : Int), b, c, d] (fxZ a b c d))
def haN (a b c d q : Nat) : Nat := ((psZ q).foldl (harmF (fxZ a b c d)) []).length
def jN (ms : List Int) : Nat := codeZ.findIdx fun w => w == ms
/-- kept, and the choices of its figure -/
def keptB (q k : Nat) : Bool := q / 2 ^ k % 2 == 0
def chs (q k : Nat) : List Nat := bif keptB q k then [0, 1, 2] else [0]
def chl (q k a : Nat) : List Nat := bif keptB q k then [a] else [0, 1, 2]
def pk (q k a : Nat) : Nat := bif keptB q k then a else 0
theorem pk_in {q k a : Nat} (h : a < 3) : pk q k a ∈ chs q k ∧ a ∈ chl q k (pk q k a) := by
  unfold pk chs chl
  cases keptB q k <;> simp only [cond_true, cond_false, List.mem_cons, List.not_mem_nil, or_false, true_and, and_true] <;> omega
theorem wN_pk (q a b c d : Nat) : wN [a, b, c, d] (psN q) = wN [pk q 0 a, pk q 1 b, pk q 2 c, pk q 3 d] (psN q) := by
  unfold wN
  refine List.map_congr_left fun k hk => ?_
  obtain ⟨h1, h2⟩ := List.mem_filter.mp hk
  have hk4 := List.mem_range.mp h1
  have h2 : keptB q k = true := h2
  have hk' : k = 0 ∨ k = 1 ∨ k = 2 ∨ k = 3 := by omega
  rcases hk' with rfl | rfl | rfl | rfl <;> simp [pk, h2]
/-- the table's row is the harmed word's -/
def hb (h l : Nat) : Bool := !Nat.beq h 0 && Nat.ble l 1
def restB (u : Bool) (l : Nat) : List Nat :=
  bif u then (bif Nat.beq l 0 then [2, 4, 4, 4, 6, 6, 6, 8, 8] else [2, 2, 2, 4, 4, 4, 6, 6, 6])
  else bif Nat.beq l 0 then [0, 6, 6, 6, 6, 6, 6, 6, 6] else bif Nat.beq l 1 then [0, 4, 4, 4, 4, 4, 4, 6, 6] else bif Nat.beq l 2 then [0, 2, 2, 2, 2, 4, 4, 4, 4] else bif Nat.beq l 3 then [0, 0, 0, 2, 2, 2, 2, 2, 2] else [0, 0, 0, 0, 0, 0, 0, 0, 0]
theorem restB_eq (h l : Nat) (hl : l ≤ 4) : restN h l = restB (hb h l) l := by
  have hl' : l = 0 ∨ l = 1 ∨ l = 2 ∨ l = 3 ∨ l = 4 := by omega
  cases h with
  | zero => rcases hl' with rfl | rfl | rfl | rfl | rfl <;> rfl
  | succ n => rcases hl' with rfl | rfl | rfl | rfl | rfl <;> rfl
noncomputable def chW (A : List Nat) (u : Bool) (l : Nat) : Bool := ((restB u l).map fun r => 2 * l + r).isPerm (dS A) && ((restB u l).map fun r => 2 * l + r).isPerm (dT A)
noncomputable def chC (A : List Nat) (u : Bool) (h l j : Nat) : Bool := (bif u then hb h l else !hb h l) && Nat.ble (j + 1) 9 && Nat.beq ((dS A).getD j 99) (2 * l + 2 * h) && Nat.beq ((dT A).getD j 99) (2 * l + 2 * h)
noncomputable def chk2I (q l : Nat) (A : List Nat) (u : Bool) (a b c d : Nat) : Bool := chW A u l && (chl q 0 a).all fun a2 => (chl q 1 b).all fun b2 => (chl q 2 c).all fun c2 => (chl q 3 d).all fun d2 => chC A u (haN a2 b2 c2 d2 q) l (jN (msZ a2 b2 c2 d2))
noncomputable def chk2Q (q : Nat) : Bool := (chs q 0).all fun a => (chs q 1).all fun b => (chs q 2).all fun c => (chs q 3).all fun d =>
  chk2I q (4 - (psN q).length) (wN [a, b, c, d] (psN q)) (hb (haN a b c d q) (4 - (psN q).length)) a b c d
theorem c2_0 : chk2Q 0 = true := by decide +kernel
theorem c2_1 : chk2Q 1 = true := by decide +kernel
theorem c2_2 : chk2Q 2 = true := by decide +kernel
theorem c2_3 : chk2Q 3 = true := by decide +kernel
theorem c2_4 : chk2Q 4 = true := by decide +kernel
theorem c2_5 : chk2Q 5 = true := by decide +kernel
theorem c2_6 : chk2Q 6 = true := by decide +kernel
theorem c2_7 : chk2Q 7 = true := by decide +kernel
theorem c2_8 : chk2Q 8 = true := by decide +kernel
theorem c2_9 : chk2Q 9 = true := by decide +kernel
theorem c2_10 : chk2Q 10 = true := by decide +kernel
theorem c2_11 : chk2Q 11 = true := by decide +kernel
theorem c2_12 : chk2Q 12 = true := by decide +kernel
theorem c2_13 : chk2Q 13 = true := by decide +kernel
theorem c2_14 : chk2Q 14 = true := by decide +kernel
theorem c2_15 : chk2Q 15 = true := by decide +kernel
theorem c2_any {q : Nat} (hq : q < 16) : chk2Q q = true := by
  have h : q = 0 ∨ q = 1 ∨ q = 2 ∨ q = 3 ∨ q = 4 ∨ q = 5 ∨ q = 6 ∨ q = 7 ∨ q = 8 ∨ q = 9 ∨ q = 10 ∨ q = 11 ∨ q = 12 ∨ q = 13 ∨ q = 14 ∨ q = 15 := by omega
  rcases h with rfl | rfl | rfl | rfl | rfl | rfl | rfl | rfl | rfl | rfl | rfl | rfl | rfl | rfl | rfl | rfl
  · exact c2_0
  · exact c2_1
  · exact c2_2
  · exact c2_3
  · exact c2_4
  · exact c2_5
  · exact c2_6
  · exact c2_7
  · exact c2_8
  · exact c2_9
  · exact c2_10
  · exact c2_11
  · exact c2_12
  · exact c2_13
  · exact c2_14
  · exact c2_15
def min2 (a b : Int) : Int := if b < a then b else a
theorem restN_ge (h l : Nat) : (restN h l).Pairwise (· ≤ ·) := by
  unfold restN
  cases (!Nat.beq h 0 && Nat.beq l 0) <;> cases (!Nat.beq h 0 && Nat.beq l 1) <;> cases Nat.beq l 0 <;> cases Nat.beq l 1 <;> cases Nat.beq l 2 <;> cases Nat.beq l 3 <;> simp only [cond_true, cond_false] <;> decide
theorem restN_eq (h l : Nat) (hl : l ≤ 4) : restZ (h : Int) (l : Int) = (restN h l).map fun (r : Nat) => (r : Int) := by
  have hl' : l = 0 ∨ l = 1 ∨ l = 2 ∨ l = 3 ∨ l = 4 := by omega
  cases h with
  | zero => rcases hl' with rfl | rfl | rfl | rfl | rfl <;> decide
  | succ n =>
    have e : ¬ ((n + 1 : Nat) : Int) = 0 := by omega
    rcases hl' with rfl | rfl | rfl | rfl | rfl
    · exact (restN_0 e).symm
    · exact (restN_1 e).symm
    · exact restN_2.symm
    · exact restN_3.symm
    · exact restN_4.symm
/-- the bounded answer above the bound is the bound and one -/
theorem min_lev {a b : List Nat} {bd : Int} (hb : bd ≤ 100) (h1 : 2 * (b.length - a.length) ≤ levS a b) (h2 : 2 * (a.length - b.length) ≤ levS a b) : (if lev a b bd < bd + 1 then lev a b bd else bd + 1) = min2 (bd + 1) (levS a b : Nat) := by
  rcases lev_or (a := a) (b := b) (m := bd) (by omega) ⟨h1, h2⟩ with h | ⟨h, h'⟩
  · rw [h]; rfl
  · rw [h, if_neg (by omega)]
    unfold min2
    rw [if_neg (by omega)]
theorem tell_eq2 {A : List Nat} {bd pr : Int} (hpr : pr = 0 ∨ pr = 1) (hb : bd ≤ 100) (hA : A.length ≤ 4) {l : Nat} (hl : l = 4 - A.length)
    (hS : ∀ B ∈ codeW, 2 * l ≤ levS A B ∧ 2 * l ≤ levS B A) :
    (codeW.map fun B => if farZ bd pr A B < bd + 1 then farZ bd pr A B else bd + 1) = (if pr = 0 then dS A else dT A).map fun (d : Nat) => min2 (bd + 1) (d : Int) := by
  have hW : ∀ B ∈ codeW, B.length = 4 := by decide
  rcases hpr with rfl | rfl
  · rw [if_pos rfl, dS, List.map_map]
    refine List.map_congr_left fun B hB => ?_
    have h1 := hW B hB
    have h2 := (hS B hB).1
    have e : farZ bd 0 A B = lev A B bd := rfl
    rw [e, min_lev hb (by omega) (by omega), Function.comp, levF_eq]
  · rw [if_neg (by decide), dT, List.map_map]
    refine List.map_congr_left fun B hB => ?_
    have h1 := hW B hB
    have h2 := (hS B hB).2
    have e : farZ bd 1 A B = lev B A bd := rfl
    rw [e, min_lev hb (by omega) (by omega), Function.comp, levF_eq]
theorem min2_mono {m a b : Int} (h : a ≤ b) : min2 m a ≤ min2 m b := by unfold min2; split <;> split <;> omega
theorem jN_spec {ms : List Int} (h : jN ms < 9) : codeZ[jN ms]? = some ms ∧ ∀ i, i < jN ms → codeZ[i]? ≠ some ms := by
  have hlen : jN ms < codeZ.length := h
  have h1 : (fun w => w == ms) codeZ[jN ms] = true := List.findIdx_getElem (p := fun w => w == ms) (xs := codeZ) (w := hlen)
  refine ⟨by rw [List.getElem?_eq_getElem hlen]; exact congrArg some (beq_iff_eq.mp h1), fun i hi e => ?_⟩
  have h2 : (fun w => w == ms) codeZ[i] = false := List.not_of_lt_findIdx (p := fun w => w == ms) (xs := codeZ) hi
  have hil : i < codeZ.length := Nat.lt_trans hi hlen
  rw [List.getElem?_eq_getElem hil] at e
  rw [Option.some.inj e] at h2
  simp at h2
/-- all that the law asks of one word -/
theorem law2_pure {f0 f1 f2 f3 bd pr : Int} {q : Nat} (p00 : 0 ≤ f0) (p01 : f0 < 3) (p10 : 0 ≤ f1) (p11 : f1 < 3) (p20 : 0 ≤ f2) (p21 : f2 < 3) (p30 : 0 ≤ f3) (p31 : f3 < 3) (hq : q < 16) (hbd : bd ≤ 100) (hpr : pr = 0 ∨ pr = 1)
    {fx ms rs : List Int} {ha lo : Int} (hfx : fx = faultZ ((f0 + f1 - f2).fmod 3) ((f0 + 2 * f1 - f3).fmod 3)) (hms : ms = (rangeKs 0 4).map (mendF [f0, f1, f2, f3] fx)) (hha : ha = (((psZ q).foldl (harmF fx) []).length : Nat)) (hlo : lo = 4 - ((psZ q).length : Nat)) (hrs : rs = restZ ha lo) :
    ((rs.map fun r => min2 (bd + 1) (2 * lo + r)).Perm (codeZ.map (tellZ bd pr [f0, f1, f2, f3] (psZ q))) ∧ (rs.map fun r => min2 (bd + 1) (2 * lo + r)).Pairwise (· ≤ ·)) ∧
    ∃ j, j < 9 ∧ codeZ[j]? = some ms ∧ (∀ i, i < j → codeZ[i]? ≠ some ms) ∧ (codeZ.map (tellZ bd pr [f0, f1, f2, f3] (psZ q))).getD j 0 = min2 (bd + 1) (2 * lo + 2 * ha) := by
  obtain ⟨a, rfl⟩ := Int.eq_ofNat_of_zero_le p00
  obtain ⟨b, rfl⟩ := Int.eq_ofNat_of_zero_le p10
  obtain ⟨c, rfl⟩ := Int.eq_ofNat_of_zero_le p20
  obtain ⟨d, rfl⟩ := Int.eq_ofNat_of_zero_le p30
  have za : a < 3 := by omega
  have zb : b < 3 := by omega
  have zc : c < 3 := by omega
  have zd : d < 3 := by omega
  have k1 := List.all_eq_true.mp (c2_any hq) _ (pk_in (q := q) (k := 0) za).1
  have k2 := List.all_eq_true.mp k1 _ (pk_in (q := q) (k := 1) zb).1
  have k3 := List.all_eq_true.mp k2 _ (pk_in (q := q) (k := 2) zc).1
  have k4 := List.all_eq_true.mp k3 _ (pk_in (q := q) (k := 3) zd).1
  unfold chk2I at k4
  rw [Bool.and_eq_true, ← wN_pk] at k4
  obtain ⟨kW, kC⟩ := k4
  have m1 := List.all_eq_true.mp kC _ (pk_in (q := q) (k := 0) za).2
  have m2 := List.all_eq_true.mp m1 _ (pk_in (q := q) (k := 1) zb).2
  have m3 := List.all_eq_true.mp m2 _ (pk_in (q := q) (k := 2) zc).2
  have m4 := List.all_eq_true.mp m3 _ (pk_in (q := q) (k := 3) zd).2
  generalize hb (haN (pk q 0 a) (pk q 1 b) (pk q 2 c) (pk q 3 d) q) (4 - (psN q).length) = u at kW m4
  clear k1 k2 k3 kC m1 m2 m3
  have efx : fx = fxZ a b c d := hfx
  subst efx
  have ems : ms = msZ a b c d := hms
  subst ems
  have eha : ha = ((haN a b c d q : Nat) : Int) := hha
  have hpl := psZ_len q
  have epl : (psZ q).length = (psN q).length := by simp [psZ]
  have elo : lo = ((4 - (psN q).length : Nat) : Int) := by rw [hlo, epl]; omega
  have eA : wrd [(a : Int), b, c, d] (psZ q) = wN [a, b, c, d] (psN q) := wN_eq [a, b, c, d] (psN q)
  have hAl : (wN [a, b, c, d] (psN q)).length = (psN q).length := by simp [wN]
  generalize wN [a, b, c, d] (psN q) = A at *
  generalize haN a b c d q = h at *
  generalize el : 4 - (psN q).length = l at *
  simp only [chW, Bool.and_eq_true] at kW
  obtain ⟨kS, kT⟩ := kW
  simp only [chC, Bool.and_eq_true, Nat.ble_eq, Nat.beq_eq] at m4
  obtain ⟨⟨⟨ku, kj⟩, kjS⟩, kjT⟩ := m4
  have eu : u = hb h l := by revert ku; cases u <;> cases hb h l <;> simp
  rw [eu, ← restB_eq h l (by omega)] at kS kT
  have kS := List.isPerm_iff.mp kS
  have kT := List.isPerm_iff.mp kT
  have hS : ∀ B ∈ codeW, 2 * l ≤ levS A B ∧ 2 * l ≤ levS B A := by
    intro B hB
    have m1 : levF A B ∈ dS A := List.mem_map.mpr ⟨B, hB, rfl⟩
    have m2 : levF B A ∈ dT A := List.mem_map.mpr ⟨B, hB, rfl⟩
    obtain ⟨r1, _, e1⟩ := List.mem_map.mp (kS.mem_iff.mpr m1)
    obtain ⟨r2, _, e2⟩ := List.mem_map.mp (kT.mem_iff.mpr m2)
    rw [← levF_eq, ← levF_eq]
    omega
  have eT : codeZ.map (tellZ bd pr [(a : Int), b, c, d] (psZ q)) = (if pr = 0 then dS A else dT A).map fun (d : Nat) => min2 (bd + 1) (d : Int) := by
    rw [← tell_eq2 (A := A) hpr hbd (by omega) (l := l) (by omega) hS, ← codeW_eq, List.map_map]
    refine List.map_congr_left fun ns _ => ?_
    show tellZ bd pr [(a : Int), b, c, d] (psZ q) ns = _
    unfold tellZ
    rw [eA]
    rfl
  have eR : (rs.map fun r => min2 (bd + 1) (2 * lo + r)) = ((restN h l).map fun r => 2 * l + r).map fun (d : Nat) => min2 (bd + 1) (d : Int) := by
    rw [hrs, eha, elo, restN_eq h l (by omega), List.map_map, List.map_map]
    refine List.map_congr_left fun r _ => ?_
    show min2 (bd + 1) (2 * (l : Int) + (r : Int)) = min2 (bd + 1) ((2 * l + r : Nat) : Int)
    congr 1
  rw [eT, eR]
  refine ⟨⟨?_, ?_⟩, jN (msZ a b c d), by omega, (jN_spec (by omega)).1, (jN_spec (by omega)).2, ?_⟩
  · split
    · exact kS.map _
    · exact kT.map _
  · refine List.Pairwise.map _ (fun x y hxy => min2_mono (by omega)) (R := (· ≤ ·)) ?_
    exact List.Pairwise.map _ (fun x y hxy => by omega) (restN_ge h l)
  · have hlen : ∀ (D : List Nat), D.length = 9 → D.getD (jN (msZ a b c d)) 99 = 2 * l + 2 * h → (D.map fun (d : Nat) => min2 (bd + 1) (d : Int)).getD (jN (msZ a b c d)) 0 = min2 (bd + 1) (2 * lo + 2 * ha) := by
      intro D h9 e
      have hj : jN (msZ a b c d) < D.length := by omega
      simp only [List.getD_eq_getElem?_getD, List.getElem?_map, List.getElem?_eq_getElem hj, Option.map_some, Option.getD_some] at e ⊢
      rw [e, eha, elo]
      congr 1
    split
    · exact hlen _ (by simp [dS, codeW]) kjS
    · exact hlen _ (by simp [dT, codeW]) kjT
theorem turnEnd6 {h₀ : Heap} {L lt : Addr} {cells own news' : List (Addr × Obj)} {st : List Str} {m m' : Str → Option Value} {T : List Int} {i k : Nat} {ys : List Value} {z : Int} {t : Tok} {s₁ : Shared} {Q : Flow → Shared → Prop} {h' : Heap} {tk : Nat}
    (F : Fr h₀ L h' m') (N : News h₀ L h' news') (hm : ∀ y, st.contains y = false → m' y = m y) (ht : (lt, listOf (ys.toArray.push (Value.int z t)) k) ∈ news') (hc : ∀ p ∈ cells, p ∈ news') (ho : ∀ p ∈ own, p ∈ news')
    (hy : IntsAre ys (T.take i)) (hz : T[i]? = some z) :
    TurnEnd h₀ L (led6 lt cells) (map6 st m) (fun c => IntsAre c.2.1 (T.take (i + 1))) own s₁ Q .next { s₁ with heap := h', toks := tk } := by
  refine ⟨(m', ys ++ [Value.int z t], k), h', tk, rfl, fr_eq F fun y => ?_, fun p hp => ?_, getE_snoc hy hz⟩
  · show (if st.contains y then m' y else m y) = m' y
    split
    · rfl
    · rename_i h
      exact (hm y (by simpa using h)).symm
  · have hp : p ∈ (lt, listOf (ys ++ [Value.int z t]).toArray k) :: cells ++ own := hp
    rcases List.mem_append.mp hp with hp | hp
    · rcases List.mem_cons.mp hp with rfl | hp
      · have e : (ys ++ [Value.int z t]).toArray = ys.toArray.push (Value.int z t) := by simp
        rw [e]
        exact N _ ht
      · exact N p (hc p hp)
    · exact N p (ho p hp)
theorem tell_at {f : List Int → Int} {i : Nat} {ns : List Int} (h : codeZ[i]? = some ns) : (codeZ.map f)[i]? = some (f ns) := by rw [List.getElem?_map, h]; rfl
local macro_rules | `(tactic| walk_at "exec If Compare cons nil") => `(tactic| (rename MarkD => hA9; refine stop ?_))
local macro_rules | `(tactic| walk_at "eval ListComp") => `(tactic| (rename MarkB => hB9; refine stop ?_))
local macro_rules | `(tactic| walk_at "CompSrc") => `(tactic| (rename MarkC => hC9; refine stop ?_))
local macro_rules | `(tactic| walk_at "call builtin:sorted") => `(tactic| (rename MarkE => hC9; refine stop ?_))
theorem w_litemE {prog : Program} {w : World} {A : Around} {E : Value → Shared → Prop} {s : Shared} {value slice : PySem.Expr} {l : Addr} {vs : List Value} {ns : List Int} {i z : Int} {u : Tok} {Q : Value → Shared → Prop}
    (hl : s.heap.IsList l vs.toArray) (hi : IntsAre vs ns) (h0 : 0 ≤ i) (h1 : i < ns.length) (hz : ns.length ≤ 1000) (e : ns.getD i.toNat 0 = z) (h : ∀ t, Q (.int z t) s)
    (hs : subscripted slice false (.ref l) (.int i u) = operate [.ref l, .int i u] (getItem (.ref l) (.int i u))) :
    wpAny (model prog w) A (subscriptTail value slice (.ref l) (.int i u)) Q E s := w_litem hl hi h0 h1 hz (fun t => by rw [e]; exact h t) hs
local macro_rules | `(tactic| walk_at "getMethod ref") => `(tactic| (rename MarkF => hA9; refine stop ?_))
local macro_rules | `(tactic| walk_at "call builtin:list.index") => `(tactic| (rename MarkG => hB9; refine stop ?_))
set_option maxHeartbeats 8000000 in
theorem law2 : PySem.Challenge.rw_ph0053_02.Holds := Mine.hd (by
  k_with_none
  k_go0
  all_goals try k_fold
  have hM := kstMark
  k_with "exec For Name BinOp cons nil" => refine stop ?_
  k_steps
  refine Stop.go ?_
  rename Fr _ _ _ _ => hFl
  (with_unfolding_all refine' For_turns hFl ?k1 ?k2; (case k2 => exact fun _ => rfl))
  have hC := markC
  k_with "pyIter ref" => ((rename MarkC => hC'); refine stop ?_)
  k_steps
  clear hC'
  refine Stop.go ?_
  rename Fr _ _ _ _ => hFl
  rename News _ _ _ _ => hNl
  rename IntsAre _ ([5] ++ _) => hxs
  simp only [List.push_toArray, List.cons_append, List.nil_append] at hNl
  have hNr := News.rot 13 hNl
  simp only [List.drop_succ_cons, List.drop_zero, List.take_succ_cons, List.take_zero] at hNr
  refine code_at hFl hNr ?_ ?zl ?zv ?zn ?h1 ?h2 ?h3
  case h1 => exact rfl
  case h2 => k_mem
  case h3 =>
    refine codeL_raw (.cons (by k_mem) (.cons _ _ (.cons _ _ (.cons _ _ (.cons _ _ .nil)))) (.cons (by k_mem) (.cons _ _ (.cons _ _ (.cons _ _ (.cons _ _ .nil)))) (.cons (by k_mem) (.cons _ _ (.cons _ _ (.cons _ _ (.cons _ _ .nil)))) (.cons (by k_mem) (.cons _ _ (.cons _ _ (.cons _ _ (.cons _ _ .nil)))) (.cons (by k_mem) (.cons _ _ (.cons _ _ (.cons _ _ (.cons _ _ .nil)))) (.cons (by k_mem) (.cons _ _ (.cons _ _ (.cons _ _ (.cons _ _ .nil)))) (.cons (by k_mem) (.cons _ _ (.cons _ _ (.cons _ _ (.cons _ _ .nil)))) (.cons (by k_mem) (.cons _ _ (.cons _ _ (.cons _ _ (.cons _ _ .nil)))) (.cons (by k_mem) (.cons _ _ (.cons _ _ (.cons _ _ (.cons _ _ .nil)))) .nil))))))))) ?_
    exact rfl
  intro lc vs nn hlc hmc hCL
  rename (_ = Data.cell _) => hc1
  refine turns5 rfl (.head _) hFl hlc hNr ?_ ?_ ?_ ?_
  · repeat (refine List.forall_mem_cons.mpr ⟨⟨_, _, rfl⟩, ?_⟩)
    exact fun _ h => nomatch h
  · repeat (refine List.forall_mem_cons.mpr ⟨⟨_, by assumption⟩, ?_⟩)
    exact fun _ h => nomatch h
  · (repeat (rename Fr _ _ _ _ => h9; clear h9))
    (repeat (rename IsRange _ _ _ _ _ _ _ _ => h9; clear h9))
    (repeat (rename (@LT.lt Nat _ _ _ ∧ _) => h9; clear h9))
    (repeat (rename (∀ (b : Addr) (o : Obj), Heap.get? _ b = some o → Heap.get? _ b = some o) => h9; clear h9))
    (repeat (rename (Data.cell _ = _) => h9; clear h9))
    intro i v u o1 o2 o3 o4 o5 d1 d2 d3 d4 d5 h tk own hv e1 e2 e3 e4 e5 hown hoff F N
    have hcm := hown _ hmc
    have hCo := hCL.mono hown
    obtain ⟨x, t, rfl⟩ := int_at hxs hv
    clear hNr hxs hmc hCL hown hv hlc
    (try clear hNl)
    (try clear hc1)

    (try (rename Dflts _ _ _ _ _ _ => h9; clear h9))
    (try (rename Glob _ _ _ _ _ _ _ _ => h9; clear h9))
    (try (rename BMod _ _ _ _ _ => h9; clear h9))
    (try (rename TopE _ _ _ _ => h9; clear h9))
    (try (rename TopW _ _ _ => h9; clear h9))
    (try (rename LooseAre _ _ _ => h9; clear h9))
    (try (rename ReadsAll _ _ _ _ => h9; clear h9))
    (try (rename Well _ _ _ _ => h9; clear h9))
    (try (rename Reads _ _ _ _ => h9; clear h9))
    (try (rename ReadsAllW _ _ _ _ _ _ => h9; clear h9))
    (try (rename Tables _ _ _ _ => h9; clear h9))
    (try (rename Flt.MathXP _ _ _ => h9; clear h9))
    (try (rename Ground _ _ _ _ _ _ _ _ _ => h9; clear h9))
    have hA := markA
    k_with "exec Assign cons List" => ((rename MarkA => hA'); refine stop ?_)
    k_with "exec Assign cons BinOp" => ((rename MarkA => hA'); refine stop ?_)
    k_with "exec Assign cons ListComp" => ((rename MarkA => hA'); refine stop ?_)
    k_with "exec If Compare cons cons" => ((rename MarkA => hA'); refine stop ?_)
    k_steps
    rename Fr _ _ _ _ => hFc
    rename News _ _ _ _ => hNc
    rename _ = Data.cell (some (.int x _)) => e1
    clear F N
    refine Stop.go (cut_cints [_, _, _] (fun fs => ∃ f0 f1 f2 f3, fs = [f0, f1, f2, f3] ∧ 0 ≤ f0 ∧ f0 < 3 ∧ 0 ≤ f1 ∧ f1 < 3 ∧ 0 ≤ f2 ∧ f2 < 3 ∧ 0 ≤ f3 ∧ f3 < 3) hFc hNc ?_ ?_)
    · (repeat (rename MarkA => h9; clear h9))
      k_steps
      have q0 := fmod3 (x.fdiv 27)
      have q1 := fmod3 (x.fdiv 9)
      have q2 := fmod3 (x.fdiv 3)
      have q3 := fmod3 x
      exact afterCI_one (by assumption) (by assumption) (by assumption) (by k_mem) (by k_mem) (fun _ h => by k_dflt exact .tail _ (List.mem_append_left _ h)) (fun _ h => by k_dflt exact .tail _ (.tail _ (.tail _ (.tail _ (.tail _ h))))) (.cons _ _ (.cons _ _ (.cons _ _ (.cons _ _ .nil)))) ⟨_, _, _, _, rfl, q0.1, q0.2, q1.1, q1.2, q2.1, q2.2, q3.1, q3.2⟩
    intro Df vf cf fs of hf tkf hfs If ef Ff Nf
    simp only [List.cons_append, List.nil_append] at Nf
    clear hFc hNc
    obtain ⟨f0, f1, f2, f3, rfl, p00, p01, p10, p11, p20, p21, p30, p31⟩ := hfs
    obtain ⟨t0, t1, t2, t3, rfl⟩ := ints4 If
    k_steps
    refine Stop.go (cut_ints (Str.ofString "places") (fun ps => ∃ q, q < 16 ∧ ps = psZ q) (by assumption) (by assumption) ?_ ?_)
    · (repeat (rename MarkA => h9; clear h9))
      k_dflt (refine LCt.Assign_ListComp_T (F₀ := by k_asm) (by rfl) (by with_unfolding_all rfl) (by with_unfolding_all rfl) (by decide) (by rfl) (by decide) (by rfl) (by rfl) (by rfl) ?_)
      k_with "CompEnd" => (k_dflt (refine LCg.CompEnd.intro (by assumption) (by assumption) _ (fun _ h => h) (by assumption) (by lcg_src) ?_))
      k_steps
      refine LCt.CompSrcT.range (n := 4) rfl (by assumption) (by assumption) (by assumption) (by decide) (by decide) (by decide) fun g => ?_
      refine kci_range (n := 4) (keepF (x.fdiv 81)) ?_ ?_ ?_
      · intro k t I oI C oC D m₂ ys l h tk E' h0 h1 hy hC hx F' N' off ne mk
        simp only [LCg.Off3] at off
        have h4 : k < 4 := by omega
        k_steps
      · intro ys hy hlen
        k_steps
        exact afterI_one (by assumption) (by assumption) (by k_dflt exact .head _) (fun _ h => .tail _ h) hy (keep_psZ _)
      · intro l k
        unfold keepF
        split
        · simp
        · omega
    intro Dp vp cp ps hp tkp hP Ip Fp Np
    obtain ⟨q, hq, rfl⟩ := hP
    clear Ff Nf
    have w1 := off_cell Np (by k_mem) (by k_mem) e3
    have w2 := off_cell Np (by k_mem) (by k_mem) e4
    have w3 := off_cell Np (by k_mem) (by k_mem) e5
    have w4 := off_cell Np (.tail _ (.head _)) (by k_mem) e3
    have w5 := off_cell Np (.tail _ (.head _)) (by k_mem) e4
    have w6 := off_cell Np (.tail _ (.head _)) (by k_mem) e5
    k_with "exec Assign cons List" => ((rename MarkA => hA'); refine stop ?_)
    k_with "exec Assign cons BinOp" => ((rename MarkA => hA'); refine stop ?_)
    k_with "exec Assign cons ListComp" => ((rename MarkA => hA'); refine stop ?_)
    k_with "exec If Compare cons cons" => ((rename MarkA => hA'); refine stop ?_)
    k_steps
    refine Stop.go (cut_cx [_, _, _, _] (fun z => 0 ≤ z ∧ z ≤ 8) Fp Np ?_ ?_)
    · (repeat (rename MarkA => h9; clear h9))
      k_steps
      have q9 := fmod9 (x.fdiv 1296)
      exact afterCX_one (by assumption) (by assumption) (by assumption) (by k_mem) (by repeat (first | exact List.forall_mem_nil _ | refine List.forall_mem_cons.mpr ⟨by k_mem, ?_⟩)) (by intro p h9; repeat (first | exact h9 | refine List.Mem.tail _ ?_)) (by omega)
    intro bd tbd ob hb tkb hbd eb Fb Nb
    simp only [List.cons_append, List.nil_append] at Nb
    clear Fp Np
    k_steps
    refine Stop.go (cut_ex (Str.ofString "s") (fun z => z = (f0 + f1 - f2).fmod 3) Fb Nb ?_ ?_)
    · (repeat (rename MarkA => h9; clear h9))
      k_steps
      exact afterX_one (by assumption) (by assumption) (fun _ h => h) rfl
    intro sv ts hs tks hsv Fs Ns
    clear Fb Nb
    k_steps
    refine Stop.go (cut_ex (Str.ofString "t") (fun z => z = (f0 + 2 * f1 - f3).fmod 3) Fs Ns ?_ ?_)
    · (repeat (rename MarkA => h9; clear h9))
      k_steps
      exact afterX_one (by assumption) (by assumption) (fun _ h => h) rfl
    intro tv tt ht tkt htv Ft Nt
    clear Fs Ns
    k_steps
    refine Stop.go (cut_cints [_, _, _] (fun fs => fs = faultZ sv tv) Ft Nt ?_ ?_)
    · (repeat (rename MarkA => h9; clear h9))
      k_steps
      · exact afterCI_one (by assumption) (by assumption) (by assumption) (by k_mem) (by k_mem) (by repeat (first | exact List.forall_mem_nil _ | refine List.forall_mem_cons.mpr ⟨by k_mem, ?_⟩)) (by intro p h9; repeat (first | exact h9 | refine List.Mem.tail _ ?_)) (.cons _ _ (.cons _ _ (.cons _ _ (.cons _ _ .nil)))) (by rw [faultZ, if_pos (by assumption)])
      · exact afterCI_one (by assumption) (by assumption) (by assumption) (by k_mem) (by k_mem) (by repeat (first | exact List.forall_mem_nil _ | refine List.forall_mem_cons.mpr ⟨by k_mem, ?_⟩)) (by intro p h9; repeat (first | exact h9 | refine List.Mem.tail _ ?_)) (.cons _ _ (.cons _ _ (.cons _ _ (.cons _ _ .nil)))) (by rw [faultZ, if_neg (by assumption), if_pos (by assumption)])
      · exact afterCI_one (by assumption) (by assumption) (by assumption) (by k_mem) (by k_mem) (by repeat (first | exact List.forall_mem_nil _ | refine List.forall_mem_cons.mpr ⟨by k_mem, ?_⟩)) (by intro p h9; repeat (first | exact h9 | refine List.Mem.tail _ ?_)) (.cons _ _ (.cons _ _ (.cons _ _ (.cons _ _ .nil)))) (by rw [faultZ, if_neg (by assumption), if_neg (by assumption), if_pos (by assumption)])
      · exact afterCI_one (by assumption) (by assumption) (by assumption) (by k_mem) (by k_mem) (by repeat (first | exact List.forall_mem_nil _ | refine List.forall_mem_cons.mpr ⟨by k_mem, ?_⟩)) (by intro p h9; repeat (first | exact h9 | refine List.Mem.tail _ ?_)) (.cons _ _ (.cons _ _ (.cons _ _ (.cons _ _ .nil)))) (by rw [faultZ, if_neg (by assumption), if_neg (by assumption), if_neg (by assumption)])
    intro Dx vx cx fx ox hx tkx hfx Ix ex Fx Nx
    simp only [List.cons_append, List.nil_append] at Nx
    clear Ft Nt
    have w7 := off_cell Nx (.head _) (by k_mem) e5
    have hxl : fx.length = 4 := by rw [hfx]; exact faultZ_len _ _
    k_with "exec Assign cons List" => ((rename MarkA => hA'); refine stop ?_)
    k_with "exec Assign cons BinOp" => ((rename MarkA => hA'); refine stop ?_)
    k_with "exec Assign cons Call" => ((rename MarkA => hA'); refine stop ?_)
    k_with "exec If BoolOp cons cons" => ((rename MarkA => hA'); refine stop ?_)
    k_with "call builtin:len" => (k_dflt (refine w_llen (News.isList (by k_asm) (by k_mem)) (by assumption) rfl ?_ ?_); exact Nat.le_trans (psZ_len q) (by decide); intro _)
    k_with "CompEnd" => (k_dflt (refine LCg.CompEnd.intro (by assumption) (by assumption) _ (fun _ h => h) (by assumption) (by lcg_src) ?_))
    k_with "subscriptTail Name Name ref int" => (refine' w_litem ?zL ?zI ?za ?zb ?zc ?_ ?zs; (case zL => exact News.isList (by k_asm) (by k_mem)); (case zI => assumption); (case za => omega); (case zb => first | k_dflt exact h4 | (rw [hxl]; omega)); (case zc => first | (k_dflt exact (by decide : 4 ≤ 1000)) | (rw [hxl]; decide)); (case zs => with_unfolding_all rfl); intro _)
    k_steps
    refine Stop.go (cut_ints (Str.ofString "mended") (fun ms => ms = (rangeKs 0 4).map (mendF [f0, f1, f2, f3] fx)) Fx Nx ?_ ?_)
    · (repeat (rename MarkA => h9; clear h9))
      have hC := markC
      k_dflt (refine LCg.Assign_ListComp_U (F₀ := by k_asm) (by rfl) (by with_unfolding_all rfl) (by with_unfolding_all rfl) (by decide) (by rfl) (by decide) (by rfl) (by rfl) (by rfl) ?_)
      k_steps
      (rename MarkC => hC9; clear hC9)
      refine Stop.go ?_
      refine LCg.CompSrc.range (n := 4) rfl (by assumption) (by assumption) (by assumption) (by decide) (by decide) (by decide) fun g => ?_
      refine kcf_range (n := 4) (mendF [f0, f1, f2, f3] fx) ?_ ?_
      · intro k t I oI C oC D m₂ ys h tk E' h0 h1 hC hx F' N' off ne mk
        simp only [LCg.Off3] at off
        have h4 : k < 4 := by omega
        k_steps
        exact ⟨rfl, _, rfl⟩
      · intro ys hy
        k_steps
        exact afterI_one (by assumption) (by assumption) (by k_dflt exact .head _) (fun _ h => .tail _ h) hy rfl
    intro Dm vm cm ms hm tkm hms Im Fm Nm
    clear Fx Nx
    have w8 := off_cell Nm (.head _) (by k_mem) e5
    k_steps
    refine Stop.go (cut_cx [_, _, _, _] (fun z => z = 4 - ((psZ q).length : Int)) Fm Nm ?_ ?_)
    · (repeat (rename MarkA => h9; clear h9))
      k_steps
      exact afterCX_one (by assumption) (by assumption) (by assumption) (by k_mem) (by repeat (first | exact List.forall_mem_nil _ | refine List.forall_mem_cons.mpr ⟨by k_mem, ?_⟩)) (by intro p h9; repeat (first | exact h9 | refine List.Mem.tail _ ?_)) (by first | rfl | omega)
    intro lo tlo ol hl tkl hlo el Fl Nl
    simp only [List.cons_append, List.nil_append] at Nl
    clear Fm Nm
    k_steps
    refine Stop.go (cut_ex (Str.ofString "harmed") (fun z => z = (((psZ q).foldl (harmF fx) []).length : Int)) Fl Nl ?_ ?_)
    · (repeat (rename MarkA => h9; clear h9))
      have hB := markB
      have hC := markC
      k_steps
      (repeat (rename MarkB => h9; clear h9))
      refine Stop.go ?_
      k_dflt (refine LCt.ListComp_T (F₀ := by k_asm) (by with_unfolding_all rfl) (by decide) (by rfl) (by decide) (by rfl) ?_)
      k_steps
      (repeat (rename MarkC => h9; clear h9))
      refine Stop.go ?_
      refine LCt.CompSrcT.ledger rfl (by assumption) (by assumption) (by k_dflt exact (.tail _ (.tail _ (.head _)))) (by rw [List.size_toArray, Ip.length, sizeLine_eq]; have := psZ_len q; omega) fun g => ?_
      refine kci_list (harmF fx) Ip ?_ ?_ ?_
      · intro k t I oI C oC D m₂ ys l h tk E' hk hy hC hx F' N' off ne mk
        simp only [LCg.Off3] at off
        have h0 := (psZ_in k hk).1
        have h4 := (psZ_in k hk).2
        k_steps
      · intro ys hy hlen
        have hE := markE
        k_steps
        (repeat (rename MarkE => h9; clear h9))
        refine Stop.go ?_
        k_dflt (refine w_llen (News.isList (by assumption) (.head _)) hy rfl ?_ ?_)
        · have z1 := hy.length
          have z2 := Ip.length
          have z3 := psZ_len q
          rw [List.size_toArray] at hlen
          exact Nat.le_trans (Nat.le_of_eq z1.symm) (Nat.le_trans hlen (by omega))
        intro _
        k_steps
        exact afterX_one (by assumption) (by assumption) (fun _ h => .tail _ h) rfl
      · intro l k
        unfold harmF
        split
        · simp
        · omega
    intro ha tha hh tkh hha Fh Nh
    clear Fl Nl
    k_with "exec If BoolOp cons cons" => ((rename MarkA => hA'); refine stop ?_)
    k_with "exec Assign cons List" => ((rename MarkA => hA'); refine stop ?_)
    k_steps
    have hl5 : lo = 0 ∨ lo = 1 ∨ lo = 2 ∨ lo = 3 ∨ lo = 4 := by have := psZ_len q; omega
    replace hha := hid hha
    replace hlo := hid hlo
    replace hms := hid hms
    replace hfx := hid hfx
    replace hsv := hid hsv
    replace htv := hid htv
    refine Stop.go (cut_ints (Str.ofString "rest") (fun rs => rs = restZ ha lo) Fh Nh ?_ ?_)
    · (repeat (rename MarkA => h9; clear h9))
      have hH := markH
      rcases Decidable.em (ha = 0) with hz | hz
      · subst hz
        rcases hl5 with rfl | rfl | rfl | rfl | rfl
        · k_steps
          exact afterI_one (by assumption) (by assumption) (by k_mem) (by intro p h9; repeat (first | exact h9 | refine List.Mem.tail _ ?_)) (by first | assumption | exact .cons _ _ (.cons _ _ (.cons _ _ (.cons _ _ (.cons _ _ (.cons _ _ (.cons _ _ (.cons _ _ (.cons _ _ .nil))))))))) restZ_0
        · k_steps
          exact afterI_one (by assumption) (by assumption) (by k_mem) (by intro p h9; repeat (first | exact h9 | refine List.Mem.tail _ ?_)) (by first | assumption | exact .cons _ _ (.cons _ _ (.cons _ _ (.cons _ _ (.cons _ _ (.cons _ _ (.cons _ _ (.cons _ _ (.cons _ _ .nil))))))))) restZ_1
        · k_steps
          exact afterI_one (by assumption) (by assumption) (by k_mem) (by intro p h9; repeat (first | exact h9 | refine List.Mem.tail _ ?_)) (by first | assumption | exact .cons _ _ (.cons _ _ (.cons _ _ (.cons _ _ (.cons _ _ (.cons _ _ (.cons _ _ (.cons _ _ (.cons _ _ .nil))))))))) restZ_2
        · k_steps
          exact afterI_one (by assumption) (by assumption) (by k_mem) (by intro p h9; repeat (first | exact h9 | refine List.Mem.tail _ ?_)) (by first | assumption | exact .cons _ _ (.cons _ _ (.cons _ _ (.cons _ _ (.cons _ _ (.cons _ _ (.cons _ _ (.cons _ _ (.cons _ _ .nil))))))))) restZ_3
        · k_steps
          exact afterI_one (by assumption) (by assumption) (by k_mem) (by intro p h9; repeat (first | exact h9 | refine List.Mem.tail _ ?_)) (by first | assumption | exact .cons _ _ (.cons _ _ (.cons _ _ (.cons _ _ (.cons _ _ (.cons _ _ (.cons _ _ (.cons _ _ (.cons _ _ .nil))))))))) restZ_4
      · rcases hl5 with rfl | rfl | rfl | rfl | rfl
        · k_steps
          exact afterI_one (by assumption) (by assumption) (by k_mem) (by intro p h9; repeat (first | exact h9 | refine List.Mem.tail _ ?_)) (by first | assumption | exact .cons _ _ (.cons _ _ (.cons _ _ (.cons _ _ (.cons _ _ (.cons _ _ (.cons _ _ (.cons _ _ (.cons _ _ .nil))))))))) (restN_0 hz)
        · k_steps
          exact afterI_one (by assumption) (by assumption) (by k_mem) (by intro p h9; repeat (first | exact h9 | refine List.Mem.tail _ ?_)) (by first | assumption | exact .cons _ _ (.cons _ _ (.cons _ _ (.cons _ _ (.cons _ _ (.cons _ _ (.cons _ _ (.cons _ _ (.cons _ _ .nil))))))))) (restN_1 hz)
        · k_steps
          exact afterI_one (by assumption) (by assumption) (by k_mem) (by intro p h9; repeat (first | exact h9 | refine List.Mem.tail _ ?_)) (by first | assumption | exact .cons _ _ (.cons _ _ (.cons _ _ (.cons _ _ (.cons _ _ (.cons _ _ (.cons _ _ (.cons _ _ (.cons _ _ .nil))))))))) restN_2
        · k_steps
          exact afterI_one (by assumption) (by assumption) (by k_mem) (by intro p h9; repeat (first | exact h9 | refine List.Mem.tail _ ?_)) (by first | assumption | exact .cons _ _ (.cons _ _ (.cons _ _ (.cons _ _ (.cons _ _ (.cons _ _ (.cons _ _ (.cons _ _ (.cons _ _ .nil))))))))) restN_3
        · k_steps
          exact afterI_one (by assumption) (by assumption) (by k_mem) (by intro p h9; repeat (first | exact h9 | refine List.Mem.tail _ ?_)) (by first | assumption | exact .cons _ _ (.cons _ _ (.cons _ _ (.cons _ _ (.cons _ _ (.cons _ _ (.cons _ _ (.cons _ _ (.cons _ _ .nil))))))))) restN_4
    intro Dr vr cr rs hr tkr hrs Ir Fr' Nr
    clear Fh Nh
    replace hrs := hid hrs
    (repeat (rename MarkA => h9; clear h9))
    have hG := markG
    k_steps
    (repeat (rename MarkG => h9; clear h9))
    refine Stop.go ?_
    rename Fr _ _ _ _ => hFt
    rename News _ _ _ _ => hNt
    rename (@LT.lt Nat _ _ _ ∧ _) => hlt
    (with_unfolding_all refine For_turns hFt ?_ (fun _ => rfl))
    have hB := markB
    k_steps
    (repeat (rename MarkB => h9; clear h9))
    refine Stop.go ?_
    have hNu := News.swap5 hNt
    have hO6 := own6 hNt el ex eb ef e1 hoff hlt
    have hFr := fig4 p00 p01 p10 p11 p20 p21 p30 p31
    refine turns6 [Str.ofString "one", Str.ofString "words", Str.ofString "far"] (codeZ.map (tellZ bd (x.fmod 2) [f0, f1, f2, f3] (psZ q))) rfl (.tail _ (.tail _ (.tail _ (.tail _ (.tail _ hcm))))) hFt hNu (by rw [List.length_map]; exact hCo.length.symm) hO6 ?_ ?_
    · intro i v u2 ys n h2 tk2 own2 hv hy hi hs ho2 F N
      obtain ⟨D, us, ns, rfl, hmo, Io, hns⟩ := CodeL.get i hCo hv
      have hmo2 := hs _ (.tail _ (.tail _ (.tail _ (.tail _ (.tail _ hmo)))))
      have hmF := hs _ (.tail _ (.tail _ (.tail _ (.tail _ (.head _)))))
      have hmP := hs _ (.tail _ (.tail _ (.tail _ (.head _))))
      have hnk := code_ok ns (List.mem_of_getElem? hns)
      simp only [List.cons_append, List.nil_append] at N
      simp only [List.map_cons, List.map_nil] at ho2
      clear hNt hNu hFt hO6 hs hmo hv hcm hoff hCo
      have hpl := psZ_len q
      have hwA := wrd_small (ks := psZ q) (show [f0, f1, f2, f3].length = 4 from rfl) hFr psZ_in
      have hwB := wrd_small (ks := [0, 1, 2, 3]) hnk.1 hnk.2 k4_in
      have hlA : (wrd [f0, f1, f2, f3] (psZ q)).length ≤ 20 := by rw [wrd_len]; omega
      have hlB : (wrd ns [0, 1, 2, 3]).length ≤ 20 := by rw [wrd_len]; decide
      have hp1 := fmod2 x
      have hp2 : 1 - x.fmod 2 = 0 ∨ 1 - x.fmod 2 = 1 := by omega
      k_with "call ref" => first
        | (k_dflt (refine' con_use (word2_con _ _ _ _ _ _ _ _ _ ?y1 ?y2 ?y3 ?y4 ?y5 ?y6 ?y7 ?y8 ?y9) ?zB ?zF ?zX ?zN ?zT ?zf ?zk ?zr ?zu ?_); (case y1 => k_dflt (exact News.isList (by k_asm) (by first | k_mem | (repeat (first | assumption | refine List.Mem.tail _ ?_))))); (case y2 => assumption); (case y3 => k_dflt (exact News.isList (by k_asm) (by first | k_mem | (repeat (first | assumption | refine List.Mem.tail _ ?_))))); (case y4 => first | assumption | k_dflt exact (.cons _ _ (.cons _ _ (.cons _ _ (.cons _ _ .nil))))); (case y5 => first | k_dflt exact rfl | exact hnk.1); (case y6 => first | assumption | exact hnk.2); (case y7 => first | exact psZ_in | k_dflt exact k4_in); (case y8 => first | exact psZ_len _ | k_dflt exact (by decide : 4 ≤ 4)); (case y9 => decide); (case zB => k_asm); (case zF => k_asm); (case zX => k_asm); (case zN => k_asm); (case zT => k_asm); (case zf => k_dflt exact rfl); (case zk => k_dflt exact rfl); (case zr => ktr_room); (case zu => ktr_units); rintro _ _ _ ⟨_, rfl⟩ _ _ _)
        | (k_dflt (refine' con_use (letters2_con _ _ _ _ _ _ _ ?y1 ?y2 ?y3 ?y4 ?y5 ?y6 ?y7 ?y8) ?zB ?zF ?zX ?zN ?zT ?zf ?zk ?zr ?zu ?_); (case y1 => k_dflt (exact News.isList (by k_asm) (by first | k_mem | (repeat (first | assumption | refine List.Mem.tail _ ?_))))); (case y2 => assumption); (case y3 => k_dflt (exact News.isList (by k_asm) (by first | k_mem | (repeat (first | assumption | refine List.Mem.tail _ ?_))))); (case y4 => first | assumption | k_dflt exact (.cons _ _ (.cons _ _ (.cons _ _ (.cons _ _ .nil))))); (case y5 => first | k_dflt exact rfl | exact hnk.1); (case y6 => first | assumption | exact hnk.2); (case y7 => first | exact psZ_in | k_dflt exact k4_in); (case y8 => first | exact psZ_len _ | k_dflt exact (by decide : 4 ≤ 4)); (case zB => k_asm); (case zF => k_asm); (case zX => k_asm); (case zN => k_asm); (case zT => k_asm); (case zf => k_dflt exact rfl); (case zk => k_dflt exact rfl); (case zr => ktr_room); (case zu => ktr_units); rintro _ _ _ ⟨_, rfl⟩ _ _ _)
        | (k_dflt (refine' con_use (lev_con _ _ _ _ _ _ _ ?za ?zb ?zc ?zd ?ze ?zg) ?zB ?zF ?zX ?zN ?zT ?zf ?zk ?zr ?zu ?_); (case za => exact if_small hwA hwB); (case zb => exact if_small hwA hwB); (case zc => exact if_len hlA hlB); (case zd => exact if_len hlA hlB); (case ze => omega); (case zg => omega); (case zB => k_asm); (case zF => k_asm); (case zX => k_asm); (case zN => k_asm); (case zT => k_asm); (case zf => k_dflt exact rfl); (case zk => k_dflt exact rfl); (case zr => ktr_room); (case zu => ktr_units); rintro _ _ _ ⟨_, rfl⟩ _ _ _)
      k_with "compareOp NotEq ref ref" => (k_dflt (refine w_ne_texts (News.get (by k_asm) (by k_mem)) (News.get (by k_asm) (by k_mem)) hwA hwB (by ke_room) ?_))
      k_with "subscriptTail Name BinOp ref int" => (refine' w_pick ?zL ?zI ?_ ?zs; (case zL => k_dflt exact News.isList (by k_asm) (by k_mem)); (case zI => first | exact hp1 | exact hp2); (case zs => with_unfolding_all rfl); intro _)
      k_steps
      rename Fr _ _ _ _ => fE'
      rename News _ _ _ _ => nE'
      refine turnEnd6 fE' nE' ?_ (List.Mem.tail _ (.tail _ (.tail _ (.tail _ (.head _))))) ?_ ?_ hy (tell_at hns)
      · intro z h3
        have hc := h3
        simp only [List.contains_cons, List.contains_nil, Bool.or_false, Bool.or_eq_false_iff, beq_eq_false_iff_ne, ne_eq] at h3
        obtain ⟨a1, a2, a3⟩ := h3
        simp only [if_neg a1, if_neg a2, if_neg a3]
        exact if_neg (fun q => by rw [hc] at q; exact Bool.false_ne_true q)
      · intro p h9
        repeat (first | (k_dflt exact List.mem_append_left own2 h9) | refine List.Mem.tail _ ?_)
      · intro p h9
        repeat (first | exact h9 | refine List.Mem.tail _ ?_)
    · intro u2 ys n h2 tk2 hy F N
      simp only [List.cons_append, List.nil_append] at N
      clear hNt hNu hFt
      obtain ⟨⟨hPm, hPw⟩, j, hj9, hjm, hjn, hjT⟩ := law2_pure p00 p01 p10 p11 p20 p21 p30 p31 hq (bd := bd) (pr := x.fmod 2) (by omega) (fmod2 x) (by rw [← unhid hsv, ← unhid htv]; exact unhid hfx) (unhid hms) (unhid hha) (unhid hlo) (unhid hrs)
      clear hO6
      have hA := markD
      k_steps
      (repeat (rename MarkD => h9; clear h9))
      refine Stop.go ?_
      rename Fr _ _ _ _ => hF9
      rename News _ _ _ _ => hN9
      refine cut_same hF9 hN9 ?_ ?_
      · have hB := markB
        have hE := markE
        k_steps
        (repeat (rename MarkE => h9; clear h9))
        refine Stop.go ?_
        refine kso_sorted hF9 hN9 (News.isList hN9 (.head _)) hy (by simp [codeZ]) fun D9 vs9 ns9 c9 h9' F9' N9' hl9 hi9 _ hp9 hs9 _ => ?_
        have hns9 : ns9 = rs.map (fun r => min2 (bd + 1) (2 * lo + r)) := List.Perm.eq_of_pairwise (fun a b _ _ g1 g2 => Int.le_antisymm g1 g2) hs9 hPw (hp9.trans hPm.symm)
        subst hns9
        clear hp9 hs9
        k_lt hl9
        have hC := markC
        k_steps
        (repeat (rename MarkB => h9; clear h9))
        refine Stop.go ?_
        k_dflt (refine LCg.ListComp_U (F₀ := by k_asm) (by with_unfolding_all rfl) (by decide) (by rfl) (by decide) (by rfl) ?_)
        k_steps
        (repeat (rename MarkC => h9; clear h9))
        refine Stop.go ?_
        have hrl : rs.length ≤ 1000 := by
          have := hPm.length_eq
          simp only [List.length_map] at this
          rw [this]; decide
        k_with "CompEnd" => (k_dflt (refine LCg.CompEnd.intro (by assumption) (by assumption) _ (fun _ h => h) (by assumption) (by lcg_src) ?_))
        refine LCg.CompSrc.ledger rfl (by assumption) (by assumption) (by k_dflt exact (.tail _ (.tail _ (.tail _ (.tail _ (.tail _ (.tail _ (.tail _ (.head _))))))))) (by rw [List.size_toArray, Ir.length, sizeLine_eq]; omega) fun g => ?_
        refine kcf_list (fun r => min2 (bd + 1) (2 * lo + r)) Ir ?_ ?_
        · intro k t I oI C oC D m₂ ys9 h tk E' hk hC hx F' N' off ne mk
          simp only [LCg.Off3] at off
          k_steps
          exact ⟨rfl, _, rfl⟩
        · intro zs hz
          k_with "compareOp NotEq ref ref" => (k_dflt (refine w_ne_ints (News.isList (by k_asm) (by k_mem)) (News.isList (by k_asm) (by k_mem)) hi9 hz (by ke_room) ?_))
          k_steps
          exact afterS_one (by assumption) (by assumption) (fun _ h => .tail _ (.tail _ h))
      clear hF9 hN9 hPm hPw
      intro h5 tk5 F5 N5
      have hA := markF
      have hB := markG
      k_steps
      (repeat (rename MarkF => h9; clear h9))
      refine Stop.go ?_
      k_dflt (refine kf_method N5 (.tail _ (.tail _ (.tail _ (.tail _ (.tail _ (.tail _ (.tail _ (.tail _ (.tail _ (.tail _ (.tail _ hcm))))))))))) PySem.F.slot_list_index PySem.F.type_list_index ?_)
      k_steps
      (repeat (rename MarkG => h9; clear h9))
      refine Stop.go ?_
      have hmem : ms ∈ codeZ := List.mem_of_getElem? hjm
      k_dflt (refine w_index N5 (.tail _ (.tail _ (.tail _ (.tail _ (.tail _ (.tail _ (.tail _ (.tail _ (.tail _ (.tail _ (.tail _ hcm))))))))))) hCo (fun p h => .tail _ (.tail _ (.tail _ (.tail _ (.tail _ (.tail _ (.tail _ (.tail _ (.tail _ (.tail _ (.tail _ h))))))))))) (.tail _ (.tail _ (.tail _ (.tail _ (.tail _ (.tail _ (.tail _ (.head _)))))))) Im (fun ns hn => by rw [(code_ok ns hn).1, (code_ok ms hmem).1]) hjm hjn (by decide) (by ke_room) ?_)
      refine w_litemE (z := if 2 * lo + 2 * ha < bd + 1 then 2 * lo + 2 * ha else bd + 1) (News.isList N5 (.head _)) hy (Int.natCast_nonneg j) (by rw [List.length_map]; exact Int.ofNat_lt.mpr hj9) (by rw [List.length_map]; decide) (by rw [Int.toNat_natCast]; exact hjT) (fun t9 => ?_) (by with_unfolding_all rfl)
      k_steps
      · exact absurd rfl (by assumption)
      · rename Fr _ _ _ _ => fE'
        rename News _ _ _ _ => nE'
        refine turnEnd5 fE' ?_ nE' (.tail _ (.head _)) (.tail _ (.tail _ (.head _))) (.tail _ (.tail _ (.tail _ (.head _)))) (.tail _ (.tail _ (.tail _ (.tail _ (.head _))))) (.tail _ (.tail _ (.tail _ (.tail _ (.tail _ (.head _)))))) (fun p h => .tail _ (.tail _ (.tail _ (.tail _ (.tail _ (.tail _ (.tail _ (.tail _ (.tail _ (.tail _ (.tail _ h))))))))))) e1 ef eb ex el
        exact rfl
  · intro u o1 o2 o3 o4 o5 h tk F N
    k_steps)
end Mine
theorem PySem.Challenge.cw_ph0053_02_holds : PySem.Challenge.rw_ph0053_02.Holds :=
  Mine.law2
