import PyProof.Rows.All
import Wide.All
import OpenK.AllK
import Wide.FinOn
import PySem.Challenge.RW_ah6019_01
open PySem PySem.W PyProof.Rows
set_option Elab.async false
set_option rowWalk.seconds 0
namespace Mine
set_option maxRecDepth 100000 in
set_option maxHeartbeats 8000000 in
open_top hd for PySem.Challenge.rw_ah6019_01
theorem filled0 : (PySem.Challenge.rw_ah6019_01 = PySem.Challenge.rw_ah6019_01) ∧ (Mine.hd.heap_39 = Mine.hd.heap_39) := by
  k_fill
  w_top off
  exact ⟨rfl, rfl⟩
end Mine
section
open PySem PySem.W PyProof.Rows
namespace Mine
/-- the worth of a sign as a figure -/
def hexv (c : Nat) : Option Nat :=
  if 48 ≤ c ∧ c ≤ 57 then some (c - 48) else if 97 ≤ c ∧ c ≤ 102 then some (c - 87) else if 65 ≤ c ∧ c ≤ 70 then some (c - 55) else none
/-- a text that writes a row of octets by percent -/
def Esc : List Int → List Nat → Prop
  | [], t => t = []
  | o :: os, t => ∃ h l r, t = 37 :: h :: l :: r ∧ hexv h = some (o / 16).toNat ∧ hexv l = some (o % 16).toNat ∧ Esc os r
theorem Esc.snoc {o : Int} {h l : Nat} (h1 : hexv h = some (o / 16).toNat) (h2 : hexv l = some (o % 16).toNat) : ∀ {os : List Int} {t : List Nat}, Esc os t → Esc (os ++ [o]) (t ++ [37, h, l])
  | [], t, e => by cases e; exact ⟨h, l, [], rfl, h1, h2, rfl⟩
  | _ :: os, t, e => by
    obtain ⟨a, b, r, rfl, e1, e2, e3⟩ := e
    exact ⟨a, b, r ++ [37, h, l], rfl, e1, e2, e3.snoc h1 h2⟩
theorem esc_nil : Esc [] (Str.ofString "").cps.toList := by unfold Esc; decide +kernel
theorem Esc.length : ∀ {os : List Int} {t : List Nat}, Esc os t → t.length = 3 * os.length
  | [], t, e => by cases e; rfl
  | _ :: os, t, e => by
    obtain ⟨a, b, r, rfl, e1, e2, e3⟩ := e
    have := e3.length
    simp only [List.length_cons]
    omega
theorem Esc.len {os : List Int} {x : Str} (e : Esc os x.cps.toList) : x.length = 3 * os.length := by
  have := e.length
  rw [Array.length_toList] at this
  exact this
def Fig (x : Str) : Prop := x.length = 16 ∧ ∀ i : Nat, i < 16 → ∃ c, x.cps[i]? = some c ∧ hexv c = some i
theorem fig_low : Fig (Str.ofString "0123456789abcdef") := ⟨by decide +kernel, fun i hi => by
  have h : ∀ i : Fin 16, (match (Str.ofString "0123456789abcdef").cps[i.val]? with | some c => hexv c == some i.val | none => false) = true := by decide +kernel
  have := h ⟨i, hi⟩
  dsimp only at this
  split at this
  · rename_i c hc
    exact ⟨c, hc, beq_iff_eq.mp this⟩
  · cases this⟩
theorem fig_up : Fig (Str.ofString "0123456789ABCDEF") := ⟨by decide +kernel, fun i hi => by
  have h : ∀ i : Fin 16, (match (Str.ofString "0123456789ABCDEF").cps[i.val]? with | some c => hexv c == some i.val | none => false) = true := by decide +kernel
  have := h ⟨i, hi⟩
  dsimp only at this
  split at this
  · rename_i c hc
    exact ⟨c, hc, beq_iff_eq.mp this⟩
  · cases this⟩
theorem fig_mem {v : Value} {t1 t2 : Tok} (h : v ∈ [Value.str (Str.ofString "0123456789abcdef") t1, Value.str (Str.ofString "0123456789ABCDEF") t2]) : ∃ x t, v = .str x t ∧ Fig x := by
  rcases List.mem_cons.mp h with rfl | h
  · exact ⟨_, _, rfl, fig_low⟩
  · rw [List.mem_singleton.mp h]
    exact ⟨_, _, rfl, fig_up⟩
theorem fdiv16 (o : Int) : o.fdiv 16 = o / 16 := Int.fdiv_eq_ediv_of_nonneg _ (by decide)
theorem fmod16 (o : Int) : o.fmod 16 = o % 16 := Int.fmod_eq_emod_of_nonneg _ (by decide)
theorem item_fig {prog : Program} {w : World} {A : Around} {E : Value → Shared → Prop} {s : Shared} {value slice : PySem.Expr} {x : Str} {t : Tok} {Q : Value → Shared → Prop} {i : Int} {u : Tok} (hx : Fig x) (h1 : 0 ≤ i) (h2 : i < 16)
    (h : ∀ c, hexv c = some i.toNat → Q (.str ⟨#[c]⟩ s.toks) { s with toks := s.toks + 1 })
    (hs : subscripted slice false (.str x t) (.int i u) = operate [.str x t, .int i u] (getItem (.str x t) (.int i u)) := by with_unfolding_all rfl)
    (ht : ∀ r, letTemporaryGo value (.str x t) r = pure () := by intro _; with_unfolding_all rfl) :
    wpAny (model prog w) A (subscriptTail value slice (.str x t) (.int i u)) Q E s := by
  obtain ⟨hl, hi⟩ := hx
  refine item_str (fitsSsize_of (N := 9223372036854775808) (by omega) (by omega) (Int.le_refl _)) (by omega) (by omega) (fun _ => ?_) hs ht
  obtain ⟨c, hc, hv⟩ := hi i.toNat (by omega)
  have e : Txt.item x i = ⟨#[c]⟩ := by
    unfold Txt.item Txt.charAt
    rw [StrLaws.at_nonneg h1 hc]; rfl
  rw [e]
  exact h c hv
theorem esc_step {pre : List Int} {o : Int} {x : Str} {c1 c2 : Nat} (hE : Esc pre x.cps.toList) (h1 : hexv c1 = some (o.fdiv 16).toNat) (h2 : hexv c2 = some (o.fmod 16).toNat) :
    Esc (pre ++ [o]) (x ++ Str.ofString "%" ++ ⟨#[c1]⟩ ++ ⟨#[c2]⟩).cps.toList := by
  rw [fdiv16] at h1
  rw [fmod16] at h2
  have e : (x ++ Str.ofString "%" ++ ⟨#[c1]⟩ ++ ⟨#[c2]⟩ : Str).cps.toList = x.cps.toList ++ [37, c1, c2] := by
    simp only [Str.cps_append, Array.toList_append]
    rw [show (Str.ofString "%").cps.toList = [37] from by decide +kernel]
    simp
  rw [e]
  exact hE.snoc h1 h2
def Okc (c : Nat) : Prop := c < 0x110000 ∧ ¬ (0xD800 ≤ c ∧ c ≤ 0xDFFF)
def GoodT (x : Str) : Prop := ∀ c ∈ x.cps.toList, Okc c
theorem hexv_ok {c v : Nat} (h : hexv c = some v) : Okc c := by
  unfold hexv at h
  unfold Okc
  split at h
  · omega
  · split at h
    · omega
    · split at h
      · omega
      · cases h
theorem Esc.good : ∀ {os : List Int} {t : List Nat}, Esc os t → ∀ c ∈ t, Okc c
  | [], t, e => by cases e; intro c hc; cases hc
  | _ :: os, t, e => by
    obtain ⟨a, b, r, rfl, e1, e2, e3⟩ := e
    intro c hc
    simp only [List.mem_cons] at hc
    rcases hc with rfl | rfl | rfl | hc
    · unfold Okc; decide
    · exact hexv_ok e1
    · exact hexv_ok e2
    · exact e3.good c hc
theorem good_append {x y : Str} (hx : GoodT x) (hy : GoodT y) : GoodT (x ++ y) := by
  intro c hc
  rw [Str.cps_append, Array.toList_append] at hc
  exact (List.mem_append.mp hc).elim (hx c) (hy c)
theorem good_of {x : Str} (h : (x.cps.toList.all fun c => decide (c < 0x110000 ∧ ¬ (0xD800 ≤ c ∧ c ≤ 0xDFFF))) = true) : GoodT x := fun c hc => by
  unfold Okc
  exact of_decide_eq_true (List.all_eq_true.mp h c hc)
/-- the worth of the figure at a place, or -1 -/
def figF (t : List Nat) (i : Nat) : Int := match t[i]? with
  | none => -1
  | some c => match hexv c with
    | some v => v
    | none => -1
abbrev LU : Str := Str.ofString "0123456789abcdef" ++ Str.ofString "0123456789ABCDEF"
theorem lu_list : LU.cps.toList = [48,49,50,51,52,53,54,55,56,57,97,98,99,100,101,102,48,49,50,51,52,53,54,55,56,57,65,66,67,68,69,70] := by decide +kernel
theorem hexv_mem (c : Nat) : c ∈ LU.cps.toList ↔ (hexv c).isSome = true := by
  rw [lu_list]
  unfold hexv
  simp only [List.mem_cons, List.not_mem_nil, or_false]
  constructor
  · intro h
    split
    · rfl
    · split
      · rfl
      · split
        · rfl
        · omega
  · intro h
    split at h
    · omega
    · split at h
      · omega
      · split at h
        · omega
        · cases h
theorem low_find : ∀ c ∈ LU.cps.toList, Txt.find (Str.ofString "0123456789abcdef") (Txt.lower ⟨#[c]⟩) = (match hexv c with | some v => (v : Int) | none => -1) := by
  rw [lu_list]; decide +kernel
theorem item_at {x : Str} {i : Int} {c : Nat} (h0 : 0 ≤ i) (hc : x.cps[i.toNat]? = some c) : Txt.item x i = ⟨#[c]⟩ := by
  unfold Txt.item Txt.charAt
  rw [StrLaws.at_nonneg h0 hc]; rfl
theorem item_get {x : Str} {i : Int} (h0 : 0 ≤ i) (h1 : ¬ (x.length : Int) ≤ i) : ∃ c, x.cps.toList[i.toNat]? = some c ∧ Txt.item x i = ⟨#[c]⟩ := by
  obtain ⟨c, hc⟩ := StrLaws.some_at (x := x) h0 (by omega)
  exact ⟨c, by rw [Array.getElem?_toList]; exact hc, item_at h0 hc⟩
theorem fig_out {x : Str} {i : Int} (h0 : 0 ≤ i) (h1 : (x.length : Int) ≤ i) : -1 = figF x.cps.toList i.toNat := by
  unfold figF
  have : x.cps.toList[i.toNat]? = none := by
    rw [List.getElem?_eq_none]
    rw [Array.length_toList]
    have h2 : (x.cps.size : Int) ≤ i := h1
    omega
  rw [this]
theorem fig_no {x : Str} {i : Int} (h0 : 0 ≤ i) (h1 : ¬ (x.length : Int) ≤ i) (h : (Builtin.Str.occurrences LU (Txt.item x i) 0 LU.length 1).isEmpty = true) : -1 = figF x.cps.toList i.toNat := by
  obtain ⟨c, hc, e⟩ := item_get h0 h1
  unfold figF
  rw [hc]
  have h2 := StrLaws.found_one LU c
  rw [← e, h] at h2
  have h3 : ¬ c ∈ LU.cps.toList := by simpa using h2.symm
  rw [hexv_mem] at h3
  dsimp only
  cases hv : hexv c with
  | none => rfl
  | some v => rw [hv] at h3; exact absurd rfl h3
theorem fig_yes {x : Str} {i : Int} (h0 : 0 ≤ i) (h1 : ¬ (x.length : Int) ≤ i) (h : (Builtin.Str.occurrences LU (Txt.item x i) 0 LU.length 1).isEmpty = false) :
    Txt.find (Str.ofString "0123456789abcdef") (Txt.lower (Txt.item x i)) = figF x.cps.toList i.toNat := by
  obtain ⟨c, hc, e⟩ := item_get h0 h1
  unfold figF
  rw [hc]
  have h2 := StrLaws.found_one LU c
  rw [← e, h] at h2
  have h3 : c ∈ LU.cps.toList := by simpa using h2.symm
  rw [e]
  exact low_find c h3
/-- the octets of a sign -/
def u8 (c : Nat) : List Nat :=
  if c < 128 then [c] else if c < 2048 then [192 + c / 64, 128 + c % 64] else if c < 65536 then [224 + c / 4096, 128 + c / 64 % 64, 128 + c % 64]
  else [240 + c / 262144, 128 + c / 4096 % 64, 128 + c / 64 % 64, 128 + c % 64]
abbrev zs (l : List Nat) : List Int := l.map fun (n : Nat) => (n : Int)
theorem fdN (o : Int) {k : Int} (h : 0 ≤ k) : o.fdiv k = o / k := Int.fdiv_eq_ediv_of_nonneg _ h
theorem fmN (o : Int) {k : Int} (h : 0 ≤ k) : o.fmod k = o % k := Int.fmod_eq_emod_of_nonneg _ h
theorem ints_eq {us : List Value} {os os' : List Int} (h : IntsAre us os) (e : os = os') : IntsAre us os' := e ▸ h
section
variable {i : Int} {t1 t2 t3 t4 : Tok}
theorem oct1 (h0 : 0 ≤ i) (h1 : i < 128) : IntsAre [.int i t1] (zs (u8 i.toNat)) := by
  refine ints_eq (.cons _ _ .nil) ?_
  unfold u8
  rw [if_pos (by omega)]
  simp only [zs, List.map_cons, List.map_nil, List.cons.injEq, and_true]
  omega
theorem oct2 (h0 : 0 ≤ i) (h1 : ¬ i < 128) (h2 : i < 2048) : IntsAre [.int (192 + i.fdiv 64) t1, .int (128 + i.fmod 64) t2] (zs (u8 i.toNat)) := by
  refine ints_eq (.cons _ _ (.cons _ _ .nil)) ?_
  unfold u8
  rw [if_neg (by omega), if_pos (by omega), fdN _ (by decide), fmN _ (by decide)]
  simp only [zs, List.map_cons, List.map_nil, List.cons.injEq, and_true]
  omega
theorem oct3 (h0 : 0 ≤ i) (h1 : ¬ i < 128) (h2 : ¬ i < 2048) (h3 : i < 65536) : IntsAre [.int (224 + i.fdiv 4096) t1, .int (128 + (i.fdiv 64).fmod 64) t2, .int (128 + i.fmod 64) t3] (zs (u8 i.toNat)) := by
  refine ints_eq (.cons _ _ (.cons _ _ (.cons _ _ .nil))) ?_
  unfold u8
  rw [if_neg (by omega), if_neg (by omega), if_pos (by omega), fdN _ (by decide), fdN _ (by decide), fmN _ (by decide), fmN _ (by decide)]
  simp only [zs, List.map_cons, List.map_nil, List.cons.injEq, and_true]
  omega
theorem oct4 (h0 : 0 ≤ i) (h1 : ¬ i < 128) (h2 : ¬ i < 2048) (h3 : ¬ i < 65536) : IntsAre [.int (240 + i.fdiv 262144) t1, .int (128 + (i.fdiv 4096).fmod 64) t2, .int (128 + (i.fdiv 64).fmod 64) t3, .int (128 + i.fmod 64) t4] (zs (u8 i.toNat)) := by
  refine ints_eq (.cons _ _ (.cons _ _ (.cons _ _ (.cons _ _ .nil)))) ?_
  unfold u8
  rw [if_neg (by omega), if_neg (by omega), if_neg (by omega), fdN _ (by decide), fdN _ (by decide), fdN _ (by decide), fmN _ (by decide), fmN _ (by decide), fmN _ (by decide)]
  simp only [zs, List.map_cons, List.map_nil, List.cons.injEq, and_true]
  omega
end
end Mine
end

section
open PySem PySem.W PyProof.Rows
namespace Mine
/-- a percent sign and two figures -/
def pct (c : Nat) (r : List Nat) : Option Nat :=
  if c = 37 then match r with
    | h :: l :: _ => match hexv h, hexv l with
      | some a, some b => some (a * 16 + b)
      | _, _ => none
    | _ => none
  else none
/-- the octets of a text -/
def rowF : Nat → List Nat → List Nat
  | 0, _ => []
  | _ + 1, [] => []
  | n + 1, c :: r => match pct c r with
    | some v => v :: rowF n (r.drop 2)
    | none => u8 c ++ rowF n r
def rowL (t : List Nat) : List Nat := rowF t.length t
theorem rowF_more : ∀ (n : Nat) (t : List Nat), t.length ≤ n → rowF n t = rowF t.length t := by
  intro n
  induction n using Nat.strongRecOn with
  | _ n ih =>
    intro t ht
    cases t with
    | nil => cases n <;> rfl
    | cons c r =>
      cases n with
      | zero => simp at ht
      | succ n =>
        simp only [List.length_cons] at ht ⊢
        simp only [rowF]
        cases pct c r with
        | some v =>
          dsimp only
          have h2 : (r.drop 2).length ≤ n := by simp only [List.length_drop]; omega
          have h3 : (r.drop 2).length ≤ r.length := by simp only [List.length_drop]; omega
          rw [ih n (by omega) _ h2, ih r.length (by omega) _ h3]
        | none =>
          dsimp only
          rw [ih n (by omega) _ (by omega)]
theorem rowL_nil : rowL [] = [] := rfl
theorem rowL_some {c v : Nat} {r : List Nat} (h : pct c r = some v) : rowL (c :: r) = v :: rowL (r.drop 2) := by
  unfold rowL
  simp only [List.length_cons, rowF, h]
  rw [rowF_more r.length]
  simp only [List.length_drop]; omega
theorem rowL_none {c : Nat} {r : List Nat} (h : pct c r = none) : rowL (c :: r) = u8 c ++ rowL r := by
  unfold rowL
  simp only [List.length_cons, rowF, h]
/-- at a place -/
theorem drop_at {t : List Nat} {i c : Nat} (h : t[i]? = some c) : t.drop i = c :: t.drop (i + 1) := by
  obtain ⟨hlt, he⟩ := List.getElem?_eq_some_iff.mp h
  rw [List.drop_eq_getElem_cons hlt, he]
theorem figF_none {t : List Nat} {i : Nat} (h : t[i]? = none) : figF t i = -1 := by unfold figF; rw [h]
theorem figF_lo (t : List Nat) (i : Nat) : -1 ≤ figF t i := by
  unfold figF
  split
  · omega
  · split <;> omega
theorem hexv_lt {c v : Nat} (h : hexv c = some v) : v < 16 := by
  unfold hexv at h
  split at h
  · cases h; omega
  · split at h
    · cases h; omega
    · split at h
      · cases h; omega
      · cases h
theorem figF_hi (t : List Nat) (i : Nat) : figF t i < 16 := by
  unfold figF
  split
  · omega
  · split
    · have := hexv_lt (by assumption); omega
    · omega
/-- both figures are there -/
theorem pct_yes {t : List Nat} {i : Nat} (h0 : t[i]? = some 37) (h1 : 0 ≤ figF t (i + 1)) (h2 : 0 ≤ figF t (i + 2)) :
    rowL (t.drop i) = (figF t (i + 1) * 16 + figF t (i + 2)).toNat :: rowL (t.drop (i + 3)) := by
  cases e1 : t[i + 1]? with
  | none => rw [figF_none e1] at h1; omega
  | some a =>
    cases e2 : t[i + 2]? with
    | none => rw [figF_none e2] at h2; omega
    | some b =>
      have f1 : figF t (i + 1) = (match hexv a with | some v => (v : Int) | none => -1) := by unfold figF; rw [e1]; try rfl
      have f2 : figF t (i + 2) = (match hexv b with | some v => (v : Int) | none => -1) := by unfold figF; rw [e2]; try rfl
      rw [drop_at h0, drop_at e1, drop_at e2]
      cases g1 : hexv a with
      | none => rw [f1, g1] at h1; simp at h1
      | some va =>
        cases g2 : hexv b with
        | none => rw [f2, g2] at h2; simp at h2
        | some vb =>
          have hp : pct 37 (a :: b :: t.drop (i + 2 + 1)) = some (va * 16 + vb) := by
            simp only [pct, if_true, g1, g2]
          rw [rowL_some hp, f1, f2, g1, g2]
          simp only [List.drop_succ_cons, List.drop_zero]
          congr 1
theorem pct_no {t : List Nat} {i c : Nat} (h0 : t[i]? = some c) (h : c ≠ 37 ∨ figF t (i + 1) < 0 ∨ figF t (i + 2) < 0) : rowL (t.drop i) = u8 c ++ rowL (t.drop (i + 1)) := by
  rw [drop_at h0]
  refine rowL_none ?_
  unfold pct
  by_cases hc : c = 37
  · rw [if_pos hc]
    have h' := h.resolve_left (fun x => x hc)
    cases e1 : t[i + 1]? with
    | none =>
      have : t.drop (i + 1) = [] := by rw [List.drop_eq_nil_iff]; exact List.getElem?_eq_none_iff.mp e1
      rw [this]
    | some a =>
      rw [drop_at e1]
      cases e2 : t[i + 2]? with
      | none =>
        have : t.drop (i + 1 + 1) = [] := by rw [List.drop_eq_nil_iff]; exact List.getElem?_eq_none_iff.mp e2
        rw [this]
      | some b =>
        rw [show i + 1 + 1 = i + 2 from rfl, drop_at e2]
        dsimp only
        have f1 : figF t (i + 1) = (match hexv a with | some v => (v : Int) | none => -1) := by unfold figF; rw [e1]; try rfl
        have f2 : figF t (i + 2) = (match hexv b with | some v => (v : Int) | none => -1) := by unfold figF; rw [e2]; try rfl
        rw [f1, f2] at h'
        cases g1 : hexv a with
        | none => rfl
        | some va =>
          cases g2 : hexv b with
          | none => rfl
          | some vb =>
            rw [g1, g2] at h'
            simp only at h'
            omega
  · rw [if_neg hc]
theorem u8_len (c : Nat) : (u8 c).length ≤ 4 ∧ 1 ≤ (u8 c).length := by
  unfold u8
  split
  · simp
  · split
    · simp
    · split <;> simp
theorem rowL_len : ∀ (n : Nat) (t : List Nat), t.length ≤ n → (rowL t).length ≤ 4 * t.length := by
  intro n
  induction n with
  | zero =>
    intro t ht
    cases t with
    | nil => simp [rowL, rowF]
    | cons c r => simp at ht
  | succ n ih =>
    intro t ht
    cases t with
    | nil => simp [rowL, rowF]
    | cons c r =>
      simp only [List.length_cons] at ht
      cases h : pct c r with
      | some v =>
        rw [rowL_some h]
        have := ih (r.drop 2) (by simp only [List.length_drop]; omega)
        simp only [List.length_cons, List.length_drop] at this ⊢
        omega
      | none =>
        rw [rowL_none h]
        have := ih r (by omega)
        have h2 := (u8_len c).1
        simp only [List.length_cons, List.length_append] at this ⊢
        omega
theorem item_ok {x : Str} (hg : GoodT x) {i : Int} (h0 : 0 ≤ i) : (Txt.item x i).cps.getD 0 0 < 1114112 := by
  by_cases h1 : (x.length : Int) ≤ i
  · have : Txt.charAt x i = none := by
      unfold Txt.charAt
      rw [seqIndex_none (.inr h1)]
      rfl
    unfold Txt.item
    rw [this]
    decide
  · obtain ⟨c, hc, e⟩ := item_get h0 h1
    rw [e]
    have := hg c (List.mem_of_getElem? hc)
    unfold Okc at this
    show c < 1114112
    omega
theorem item_cp {x : Str} {i : Nat} (h1 : i < x.length) : x.cps.toList[i]? = some ((Txt.item x i).cps.getD 0 0) := by
  obtain ⟨c, hc, e⟩ := item_get (x := x) (i := (i : Int)) (by omega) (by omega)
  rw [e]
  simpa using hc
theorem item_pc {x : Str} {i : Nat} (h : (Txt.item x i == Str.ofString "%") = true) : (Txt.item x i).cps.getD 0 0 = 37 := by
  rw [beq_iff_eq.mp h]; decide +kernel
theorem item_npc {x : Str} {i : Nat} (h : (Txt.item x i == Str.ofString "%") = false) : (Txt.item x i).cps.getD 0 0 ≠ 37 := by
  intro e
  unfold Txt.item at e h
  have e2 : (Txt.charAt x i).getD 0 = 37 := e
  rw [e2] at h
  exact absurd h (by decide +kernel)
theorem figF_in {t : List Nat} {i : Nat} (h : 0 ≤ figF t i) : i < t.length := by
  by_cases h1 : i < t.length
  · exact h1
  · rw [figF_none (List.getElem?_eq_none (by omega))] at h; omega
theorem add_sz {acc : List Nat} {c : Nat} (h : acc.length ≤ 400000) : (zs acc).length + (zs (u8 c)).length ≤ sizeLine := by
  have := (u8_len c).1
  simp only [zs, List.length_map, sizeLine_eq]
  omega
theorem ints_nil : IntsAre [] (zs []) := by
  simp only [zs, List.map_nil]
  exact .nil
theorem ints_append : ∀ {us ws : List Value} {os ps : List Int}, IntsAre us os → IntsAre ws ps → IntsAre (us ++ ws) (os ++ ps)
  | _, _, _, _, .nil, h => h
  | _, _, _, _, .cons n t r, h => .cons n t (ints_append r h)
theorem ints_snoc {us : List Value} {acc : List Nat} {k : Int} {t : Tok} (h : IntsAre us (zs acc)) (h0 : 0 ≤ k) : IntsAre (us ++ [.int k t]) (zs (acc ++ [k.toNat])) := by
  have e : zs (acc ++ [k.toNat]) = zs acc ++ [k] := by
    simp only [zs, List.map_append, List.map_cons, List.map_nil]
    rw [Int.toNat_of_nonneg h0]
  rw [e]
  exact ints_append h (.cons _ _ .nil)
theorem ints_cat {us : List Value} {acc bcc : List Nat} (h : IntsAre us (zs acc ++ zs bcc)) : IntsAre us (zs (acc ++ bcc)) := by
  simpa only [zs, List.map_append] using h
section
variable {x : Str} {acc : List Nat} {i : Nat} {k1 k2 : Int}
theorem rs_yes (hE : acc ++ rowL (x.cps.toList.drop i) = rowL x.cps.toList) (h1 : (i : Int) < x.length) (hp : (Txt.item x i == Str.ofString "%") = true)
    (e1 : k1 = figF x.cps.toList ((i : Int) + 1).toNat) (e2 : k2 = figF x.cps.toList ((i : Int) + 2).toNat) (g1 : 0 ≤ k1) (g2 : 0 ≤ k2) (hal : acc.length ≤ 4 * i) :
    (acc ++ [(k1 * 16 + k2).toNat]) ++ rowL (x.cps.toList.drop (i + 3)) = rowL x.cps.toList ∧ i + 3 ≤ x.length ∧ (acc ++ [(k1 * 16 + k2).toNat]).length ≤ 4 * (i + 3) := by
  have a1 : ((i : Int) + 1).toNat = i + 1 := by omega
  have a2 : ((i : Int) + 2).toNat = i + 2 := by omega
  rw [a1] at e1
  rw [a2] at e2
  have hi : i < x.length := by omega
  have h0 := item_cp hi
  rw [item_pc hp] at h0
  have h3 := figF_in (by rw [← e2]; exact g2)
  rw [Array.length_toList] at h3
  have h4 : i + 2 < x.length := h3
  have hy := pct_yes h0 (by rw [← e1]; exact g1) (by rw [← e2]; exact g2)
  rw [← e1, ← e2] at hy
  refine ⟨?_, by omega, by simp only [List.length_append, List.length_cons, List.length_nil]; omega⟩
  rw [List.append_assoc, ← hE, hy]
  rfl
theorem rs_no (hE : acc ++ rowL (x.cps.toList.drop i) = rowL x.cps.toList) (h1 : (i : Int) < x.length)
    (e1 : k1 = figF x.cps.toList ((i : Int) + 1).toNat) (e2 : k2 = figF x.cps.toList ((i : Int) + 2).toNat) (g : (Txt.item x i == Str.ofString "%") = false ∨ ¬ 0 ≤ k1 ∨ ¬ 0 ≤ k2) (hal : acc.length ≤ 4 * i) :
    (acc ++ u8 (((Txt.item x i).cps.getD 0 0 : Nat) : Int).toNat) ++ rowL (x.cps.toList.drop (i + 1)) = rowL x.cps.toList ∧ i + 1 ≤ x.length ∧ (acc ++ u8 (((Txt.item x i).cps.getD 0 0 : Nat) : Int).toNat).length ≤ 4 * (i + 1) := by
  have a1 : ((i : Int) + 1).toNat = i + 1 := by omega
  have a2 : ((i : Int) + 2).toNat = i + 2 := by omega
  rw [a1] at e1
  rw [a2] at e2
  have hi : i < x.length := by omega
  have h0 := item_cp hi
  have hn := pct_no h0 (by
    rcases g with g | g | g
    · exact .inl (item_npc g)
    · exact .inr (.inl (by rw [← e1]; omega))
    · exact .inr (.inr (by rw [← e2]; omega)))
  have hu := (u8_len ((Txt.item x i).cps.getD 0 0)).1
  rw [Int.toNat_natCast]
  refine ⟨?_, by omega, by simp only [List.length_append]; omega⟩
  rw [List.append_assoc, ← hE, hn]
theorem rs_done (hE : acc ++ rowL (x.cps.toList.drop i) = rowL x.cps.toList) (h1 : ¬ (i : Int) < x.length) : acc = rowL x.cps.toList := by
  have : x.cps.toList.drop i = [] := by
    rw [List.drop_eq_nil_iff, Array.length_toList]
    have h2 : ¬ (i : Int) < x.cps.size := h1
    omega
  rw [this, rowL_nil, List.append_nil] at hE
  exact hE
end
end Mine
end

section
open PySem PySem.W PyProof.Rows
namespace Mine
/-- what may follow a leader: how many, the first follower's least and most, the leader's bits -/
def formN (o : Nat) : Option (Nat × Nat × Nat × Nat) :=
  if 194 ≤ o ∧ o ≤ 223 then some (1, 128, 191, o - 192)
  else if 224 ≤ o ∧ o ≤ 239 then some (2, if o = 224 then 160 else 128, if o = 237 then 159 else 191, o - 224)
  else if 240 ≤ o ∧ o ≤ 244 then some (3, if o = 240 then 144 else 128, if o = 244 then 143 else 191, o - 240)
  else none
/-- the followers: the sign, if the form is whole, and how many were taken -/
def contN : Nat → Nat → Nat → Nat → List Nat → Option Nat × Nat
  | 0, _, _, code, _ => (some code, 0)
  | _ + 1, _, _, _, [] => (none, 0)
  | n + 1, lo, hi, code, x :: r => if lo ≤ x ∧ x ≤ hi then ((contN n 128 191 (code * 64 + x % 64) r).1, (contN n 128 191 (code * 64 + x % 64) r).2 + 1) else (none, 0)
def decF : Nat → List Nat → List Nat
  | 0, _ => []
  | _ + 1, [] => []
  | n + 1, o :: r => if o < 128 then o :: decF n r else match formN o with
    | none => 65533 :: decF n r
    | some (cnt, lo, hi, code) => (contN cnt lo hi code r).1.getD 65533 :: decF n (r.drop (contN cnt lo hi code r).2)
/-- the signs of octets -/
def decL (t : List Nat) : List Nat := decF t.length t
theorem decF_more : ∀ (n : Nat) (t : List Nat), t.length ≤ n → decF n t = decF t.length t := by
  intro n
  induction n using Nat.strongRecOn with
  | _ n ih =>
    intro t ht
    cases t with
    | nil => cases n <;> rfl
    | cons c r =>
      cases n with
      | zero => simp at ht
      | succ n =>
        simp only [List.length_cons] at ht ⊢
        simp only [decF]
        by_cases h : c < 128
        · rw [if_pos h, if_pos h, ih n (by omega) _ (by omega)]
        · rw [if_neg h, if_neg h]
          cases formN c with
          | none => dsimp only; rw [ih n (by omega) _ (by omega)]
          | some q =>
            obtain ⟨cnt, lo, hi, code⟩ := q
            dsimp only
            have h3 : ∀ k, (r.drop k).length ≤ r.length := fun k => by simp only [List.length_drop]; omega
            rw [ih n (by omega) _ (Nat.le_trans (h3 _) (by omega)), ih r.length (by omega) _ (h3 _)]
theorem decL_nil : decL [] = [] := rfl
theorem decL_ascii {o : Nat} {r : List Nat} (h : o < 128) : decL (o :: r) = o :: decL r := by
  unfold decL
  simp only [List.length_cons, decF, if_pos h]
theorem decL_none {o : Nat} {r : List Nat} (h : ¬ o < 128) (hf : formN o = none) : decL (o :: r) = 65533 :: decL r := by
  unfold decL
  simp only [List.length_cons, decF, if_neg h, hf]
theorem decL_some {o cnt lo hi code : Nat} {r : List Nat} (h : ¬ o < 128) (hf : formN o = some (cnt, lo, hi, code)) :
    decL (o :: r) = (contN cnt lo hi code r).1.getD 65533 :: decL (r.drop (contN cnt lo hi code r).2) := by
  unfold decL
  simp only [List.length_cons, decF, if_neg h, hf]
  rw [decF_more r.length]
  simp only [List.length_drop]; omega
theorem formN_ascii {o : Nat} (h : o < 128) : formN o = none := by
  unfold formN
  rw [if_neg (by omega), if_neg (by omega), if_neg (by omega)]
theorem decL_len : ∀ (n : Nat) (t : List Nat), t.length ≤ n → (decL t).length ≤ t.length := by
  intro n
  induction n with
  | zero =>
    intro t ht
    cases t with
    | nil => simp [decL, decF]
    | cons c r => simp at ht
  | succ n ih =>
    intro t ht
    cases t with
    | nil => simp [decL, decF]
    | cons c r =>
      simp only [List.length_cons] at ht
      by_cases h : c < 128
      · rw [decL_ascii h]
        have := ih r (by omega)
        simp only [List.length_cons]; omega
      · cases hf : formN c with
        | none =>
          rw [decL_none h hf]
          have := ih r (by omega)
          simp only [List.length_cons]; omega
        | some q =>
          obtain ⟨cnt, lo, hi, code⟩ := q
          rw [decL_some h hf]
          have := ih (r.drop (contN cnt lo hi code r).2) (by simp only [List.length_drop]; omega)
          simp only [List.length_cons, List.length_drop] at this ⊢
          omega
/-- followers behind the first -/
theorem cont_bound : ∀ (n lo hi code : Nat) (r : List Nat) (c k : Nat), contN n lo hi code r = (some c, k) → code * 64 ^ n ≤ c ∧ c < (code + 1) * 64 ^ n := by
  intro n
  induction n with
  | zero => intro lo hi code r c k h; simp only [contN, Prod.mk.injEq, Option.some.injEq] at h; simp only [Nat.pow_zero]; omega
  | succ n ih =>
    intro lo hi code r c k h
    cases r with
    | nil => simp only [contN, Prod.mk.injEq] at h; cases h.1
    | cons x r =>
      simp only [contN] at h
      split at h
      · simp only [Prod.mk.injEq] at h
        obtain ⟨h1, h2⟩ := h
        have h3 := ih 128 191 (code * 64 + x % 64) r c (contN n 128 191 (code * 64 + x % 64) r).2 (Prod.ext h1 rfl)
        have hx : x % 64 < 64 := Nat.mod_lt _ (by decide)
        rw [Nat.pow_succ]
        generalize 64 ^ n = w at h3 ⊢
        constructor
        · refine Nat.le_trans ?_ h3.1
          rw [Nat.mul_comm w 64, ← Nat.mul_assoc]
          exact Nat.mul_le_mul_right _ (by omega)
        · refine Nat.lt_of_lt_of_le h3.2 ?_
          rw [Nat.mul_comm w 64, ← Nat.mul_assoc]
          exact Nat.mul_le_mul_right _ (by omega)
      · simp only [Prod.mk.injEq] at h; cases h.1
theorem cont_first {n lo hi code : Nat} {r : List Nat} {c k : Nat} (h : contN (n + 1) lo hi code r = (some c, k)) : ∃ x, lo ≤ x ∧ x ≤ hi ∧ (code * 64 + x % 64) * 64 ^ n ≤ c ∧ c < (code * 64 + x % 64 + 1) * 64 ^ n := by
  cases r with
  | nil => simp only [contN, Prod.mk.injEq] at h; cases h.1
  | cons x r =>
    simp only [contN] at h
    split at h
    · rename_i hx
      simp only [Prod.mk.injEq] at h
      have h3 := cont_bound n 128 191 (code * 64 + x % 64) r c _ (Prod.ext h.1 rfl)
      exact ⟨x, hx.1, hx.2, h3⟩
    · simp only [Prod.mk.injEq] at h; cases h.1
theorem form_good {o cnt lo hi code : Nat} (hf : formN o = some (cnt, lo, hi, code)) {r : List Nat} {c k : Nat} (h : contN cnt lo hi code r = (some c, k)) : Okc c := by
  unfold formN at hf
  unfold Okc
  split at hf
  · rename_i ho
    simp only [Option.some.injEq, Prod.mk.injEq] at hf
    obtain ⟨rfl, rfl, rfl, rfl⟩ := hf
    obtain ⟨x, hx1, hx2, hx3, hx4⟩ := cont_first h
    simp only [Nat.pow_zero, Nat.mul_one] at hx3 hx4
    omega
  · split at hf
    · rename_i ho
      simp only [Option.some.injEq, Prod.mk.injEq] at hf
      obtain ⟨rfl, rfl, rfl, rfl⟩ := hf
      obtain ⟨x, hx1, hx2, hx3, hx4⟩ := cont_first h
      simp only [Nat.pow_one] at hx3 hx4
      (repeat' split at hx1) <;> (repeat' split at hx2) <;> omega
    · split at hf
      · rename_i ho
        simp only [Option.some.injEq, Prod.mk.injEq] at hf
        obtain ⟨rfl, rfl, rfl, rfl⟩ := hf
        obtain ⟨x, hx1, hx2, hx3, hx4⟩ := cont_first h
        simp only [show (64 : Nat) ^ 2 = 4096 from rfl] at hx3 hx4
        (repeat' split at hx1) <;> (repeat' split at hx2) <;> omega
      · cases hf
theorem decL_good : ∀ (n : Nat) (t : List Nat), t.length ≤ n → ∀ c ∈ decL t, Okc c := by
  intro n
  induction n with
  | zero =>
    intro t ht
    cases t with
    | nil => intro c hc; cases hc
    | cons c r => simp at ht
  | succ n ih =>
    intro t ht
    cases t with
    | nil => intro c hc; cases hc
    | cons o r =>
      simp only [List.length_cons] at ht
      intro c hc
      by_cases h : o < 128
      · rw [decL_ascii h] at hc
        rcases List.mem_cons.mp hc with rfl | hc
        · unfold Okc; omega
        · exact ih r (by omega) c hc
      · cases hf : formN o with
        | none =>
          rw [decL_none h hf] at hc
          rcases List.mem_cons.mp hc with rfl | hc
          · unfold Okc; omega
          · exact ih r (by omega) c hc
        | some q =>
          obtain ⟨cnt, lo, hi, code⟩ := q
          rw [decL_some h hf] at hc
          rcases List.mem_cons.mp hc with rfl | hc
          · cases hq : (contN cnt lo hi code r).1 with
            | none => unfold Okc; simp
            | some c => exact form_good hf (Prod.ext hq rfl)
          · exact ih (r.drop (contN cnt lo hi code r).2) (by simp only [List.length_drop]; omega) c hc
def FormI (i c lo hi code : Int) : Prop := ∃ c' lo' hi' code' : Nat, c = c' ∧ lo = lo' ∧ hi = hi' ∧ code = code' ∧ formN i.toNat = some (c', lo', hi', code')
theorem form1 {i : Int} (h1 : 194 ≤ i) (h2 : i ≤ 223) : FormI i 1 128 191 (i - 192) := by
  refine ⟨1, 128, 191, i.toNat - 192, rfl, rfl, rfl, by omega, ?_⟩
  unfold formN
  rw [if_pos (by omega)]
theorem form2 {i lo hi : Int} (h1 : 224 ≤ i) (h2 : i ≤ 239) (e1 : lo = if i = 224 then 160 else 128) (e2 : hi = if i = 237 then 159 else 191) : FormI i 2 lo hi (i - 224) := by
  refine ⟨2, if i.toNat = 224 then 160 else 128, if i.toNat = 237 then 159 else 191, i.toNat - 224, rfl, ?_, ?_, by omega, ?_⟩
  · rw [e1]; (repeat' split) <;> omega
  · rw [e2]; (repeat' split) <;> omega
  · unfold formN
    rw [if_neg (by omega), if_pos (by omega)]
theorem form3 {i lo hi : Int} (h1 : 240 ≤ i) (h2 : i ≤ 244) (e1 : lo = if i = 240 then 144 else 128) (e2 : hi = if i = 244 then 143 else 191) : FormI i 3 lo hi (i - 240) := by
  refine ⟨3, if i.toNat = 240 then 144 else 128, if i.toNat = 244 then 143 else 191, i.toNat - 240, rfl, ?_, ?_, by omega, ?_⟩
  · rw [e1]; (repeat' split) <;> omega
  · rw [e2]; (repeat' split) <;> omega
  · unfold formN
    rw [if_neg (by omega), if_neg (by omega), if_pos (by omega)]
theorem form0 {i : Int} (h : i < 194 ∨ 244 < i) : formN i.toNat = none := by
  unfold formN
  rw [if_neg (by omega), if_neg (by omega), if_neg (by omega)]
end Mine
end

section
open PySem PySem.W PyProof.Rows
namespace Mine
/-- the way out of a while: what the frame and the ledger are, and why -/
def KxExit {σ : Type} (h₀ : Heap) (L : Addr) (s : Shared) (Led : σ → List (Addr × Obj)) (ps : σ → List (Str × Value)) (stored : List Str) (m₀ : Str → Option Value) (X : σ → Prop) (c : σ) (s₂ : Shared) : Prop :=
  X c ∧ ∃ (u : Str → Option Value) (h' : Heap) (tk : Nat), s₂ = { s with heap := h', toks := tk } ∧ Fr h₀ L h' (kstB (fun z => if stored.contains z then u z else m₀ z) (ps c)) ∧ News h₀ L h' (Led c)
theorem kx_exit {σ : Type} {h₀ : Heap} {L : Addr} {s : Shared} {Led : σ → List (Addr × Obj)} {ps : σ → List (Str × Value)} {stored : List Str} {m₀ : Str → Option Value} {X : σ → Prop} {c : σ} {u : Str → Option Value} {h' : Heap} {tk : Nat}
    (x : X c) (F : Fr h₀ L h' (kstB (fun z => if stored.contains z then u z else m₀ z) (ps c))) (N : News h₀ L h' (Led c)) : KxExit h₀ L s Led ps stored m₀ X c { s with heap := h', toks := tk } := ⟨x, u, h', tk, rfl, F, N⟩
theorem kx_while {prog : Program} {w : World} {A : Around} {E : Value → Shared → Prop} {Q : Flow → Shared → Prop} {s : Shared} {env : Env} {h₀ : Heap} {L : Addr} {σ : Type} {test : Expr} {body : List Stmt} {pos : Pos} {m₀ : Str → Option Value}
    (Led : σ → List (Addr × Obj)) (ps : σ → List (Str × Value)) (Facts : σ → Prop) (stored : List Str) (P : σ → Prop) (μ : σ → Nat) (X : σ → Prop) (c₀ : σ)
    (F : Fr h₀ L s.heap m₀) (N : News h₀ L s.heap (Led c₀)) (hf : Facts c₀) (hk : ∀ p ∈ ps c₀, m₀ p.1 = some p.2) (hp : P c₀)
    (turn : ∀ (c : σ) (u : Str → Option Value) h tk, Facts c → P c → Fr h₀ L h (kstB (fun z => if stored.contains z then u z else m₀ z) (ps c)) → News h₀ L h (Led c) →
      wpAny (model prog w) A (isTrue test env (eval test env)) (fun b s₂ =>
        if b = true then wpAny (model prog w) A (execs body env) (KswPost h₀ L s Led ps Facts stored m₀ P μ Q c) E s₂ else KxExit h₀ L s Led ps stored m₀ X c s₂) E { s with heap := h, toks := tk })
    (done : ∀ (c : σ) (u : Str → Option Value) h tk, Facts c → P c → X c → Fr h₀ L h (kstB (fun z => if stored.contains z then u z else m₀ z) (ps c)) → News h₀ L h (Led c) → Q .next { s with heap := h, toks := tk })
    (hE : PassesOwn (model prog w) A env E := by passes_own) :
    wpAny (model prog w) A (exec (.While test body [] pos) env) Q E s := by
  refine ksw_while Led ps Facts stored P μ c₀ F N hf hk hp (fun c u h tk hf' hp' F' N' => ?_) hE
  refine wpAny_mono (turn c u h tk hf' hp' F' N') (fun b s₂ q => ?_) fun _ _ x => x
  cases b with
  | true => simpa using q
  | false =>
    simp only [Bool.false_eq_true, if_false] at q ⊢
    obtain ⟨x, u', h', tk', rfl, F2, N2⟩ := q
    exact done c u' h' tk' hf' hp' x F2 N2
theorem item_lit {prog : Program} {w : World} {A : Around} {E : Value → Shared → Prop} {s : Shared} {value slice : PySem.Expr} {h₀ : Heap} {L l : Addr} {news : List (Addr × Obj)} {arr : List Value} {n : Nat} {k : Int} {u : Tok} {v : Value} {Q : Value → Shared → Prop}
    (N : News h₀ L s.heap news) (hm : (l, listOf arr.toArray n) ∈ news) (h0 : 0 ≤ k) (h1 : k < 2 ^ 63) (hx : arr[k.toNat]? = some v) (h : Q v s)
    (hs : subscripted slice false (.ref l) (.int k u) = operate [.ref l, .int k u] (getItem (.ref l) (.int k u)) := by with_unfolding_all rfl) :
    wpAny (model prog w) A (subscriptTail value slice (.ref l) (.int k u)) Q E s := by
  have hl : s.heap.IsList l arr.toArray := ⟨_, (N _ hm).1, rfl, _, rfl⟩
  exact tail_any hl.typeIs slot_list_getitem.lookup (wpAny_getItem_list hl h0 h1 (by simpa using hx) h) hs
theorem ints_get_z {us : List Value} {row : List Nat} (h : IntsAre us (zs row)) {k : Nat} (hk : k < row.length) : ∃ t, us[k]? = some (.int ((row.getD k 0 : Nat) : Int) t) := by
  refine h.get k _ ?_
  simp only [zs, List.getElem?_map]
  rw [List.getElem?_eq_getElem hk, List.getD_eq_getElem?_getD, List.getElem?_eq_getElem hk]
  rfl
theorem getD_lt {row : List Nat} (hr : ∀ o ∈ row, o < 256) (k : Nat) : row.getD k 0 < 256 := by
  by_cases hk : k < row.length
  · rw [List.getD_eq_getElem?_getD, List.getElem?_eq_getElem hk]
    exact hr _ (List.getElem_mem hk)
  · rw [List.getD_eq_getElem?_getD, List.getElem?_eq_none (by omega)]
    decide
theorem item_row {prog : Program} {w : World} {A : Around} {E : Value → Shared → Prop} {s : Shared} {value slice : PySem.Expr} {l : Addr} {us : List Value} {row : List Nat} {i : Int} {u : Tok} {Q : Value → Shared → Prop}
    (hl : s.heap.IsList l us.toArray) (hi : IntsAre us (zs row)) (hr : ∀ o ∈ row, o < 256) (h0 : 0 ≤ i) (hhi : i < row.length) (hfit : row.length < 2 ^ 62) (h : ∀ t, row.getD i.toNat 0 < 256 → Q (.int ((row.getD i.toNat 0 : Nat) : Int) t) s)
    (hs : subscripted slice false (.ref l) (.int i u) = operate [.ref l, .int i u] (getItem (.ref l) (.int i u)) := by with_unfolding_all rfl) :
    wpAny (model prog w) A (subscriptTail value slice (.ref l) (.int i u)) Q E s := by
  obtain ⟨t, ht⟩ := ints_get_z hi (k := i.toNat) (by omega)
  refine tail_any hl.typeIs slot_list_getitem.lookup (wpAny_getItem_list hl h0 (by omega) (by simpa using ht) (h t (getD_lt hr _))) hs
section
variable {row : List Nat} {cnt count least most code i j : Nat}
theorem drop_getD (h : j < row.length) : row.drop j = row.getD j 0 :: row.drop (j + 1) := by
  rw [List.drop_eq_getElem_cons h, List.getD_eq_getElem?_getD, List.getElem?_eq_getElem h]
  rfl
theorem inner_full (h : count = cnt) : contN (cnt - count) least most code (row.drop j) = (some code, 0) := by
  rw [h, Nat.sub_self]
  simp only [contN]
theorem inner_exit (h : count < cnt) (he : row.length ≤ j ∨ ¬ least ≤ row.getD j 0 ∨ ¬ row.getD j 0 ≤ most) : contN (cnt - count) least most code (row.drop j) = (none, 0) := by
  obtain ⟨n, hn⟩ : ∃ n, cnt - count = n + 1 := ⟨cnt - count - 1, by omega⟩
  rw [hn]
  by_cases hj : j < row.length
  · rw [drop_getD hj]
    simp only [contN]
    rw [if_neg]
    intro hh
    rcases he with he | he | he
    · omega
    · exact he hh.1
    · exact he hh.2
  · rw [List.drop_eq_nil_iff.mpr (by omega)]
    simp only [contN]
theorem inner_step (h : count < cnt) (hj : j < row.length) (h1 : least ≤ row.getD j 0) (h2 : row.getD j 0 ≤ most) :
    contN (cnt - count) least most code (row.drop j) = ((contN (cnt - (count + 1)) 128 191 (code * 64 + row.getD j 0 % 64) (row.drop (j + 1))).1, (contN (cnt - (count + 1)) 128 191 (code * 64 + row.getD j 0 % 64) (row.drop (j + 1))).2 + 1) := by
  obtain ⟨n, hn⟩ : ∃ n, cnt - count = n + 1 := ⟨cnt - count - 1, by omega⟩
  have hn2 : cnt - (count + 1) = n := by omega
  rw [hn, hn2, drop_getD hj]
  simp only [contN]
  rw [if_pos ⟨h1, h2⟩]
end
/-- what holds between the turns of the inner loop: what is left gives the whole -/
def Inner (row : List Nat) (cnt lo hi code0 p0 : Nat) (code count j least most : Nat) : Prop :=
  count ≤ cnt ∧ p0 ≤ j ∧ j ≤ row.length ∧ contN cnt lo hi code0 (row.drop p0) = ((contN (cnt - count) least most code (row.drop j)).1, (contN (cnt - count) least most code (row.drop j)).2 + (j - p0))
section
variable {row : List Nat} {cnt lo hi code0 p0 code count j least most o i : Nat} {acc : List Nat}
theorem inner_start (h : p0 ≤ row.length) : Inner row cnt lo hi code0 p0 code0 0 p0 lo hi := by
  refine ⟨Nat.zero_le _, Nat.le_refl _, h, ?_⟩
  simp
theorem Inner.facts (h : Inner row cnt lo hi code0 p0 code count j least most) : count ≤ cnt ∧ p0 ≤ j ∧ j ≤ row.length := ⟨h.1, h.2.1, h.2.2.1⟩
theorem Inner.step (h : Inner row cnt lo hi code0 p0 code count j least most) (hc : count < cnt) (hj : j < row.length) (h1 : least ≤ row.getD j 0) (h2 : row.getD j 0 ≤ most) :
    Inner row cnt lo hi code0 p0 (code * 64 + row.getD j 0 % 64) (count + 1) (j + 1) 128 191 := by
  obtain ⟨a, b, c, d⟩ := h
  refine ⟨by omega, by omega, by omega, ?_⟩
  rw [d, inner_step hc hj h1 h2]
  simp only [Prod.mk.injEq, true_and]
  omega
theorem Inner.valid (h : Inner row cnt lo hi code0 p0 code count j least most) (hf : formN o = some (cnt, lo, hi, code0)) (hc : count = cnt) : Okc code := by
  obtain ⟨a, b, c, d⟩ := h
  rw [inner_full hc] at d
  exact form_good hf d
theorem Inner.whole (h : Inner row cnt lo hi code0 (i + 1) code count j least most) (hil : i < row.length) (ho : ¬ row.getD i 0 < 128) (hf : formN (row.getD i 0) = some (cnt, lo, hi, code0)) (hc : count = cnt)
    (hE : acc ++ decL (row.drop i) = decL row) : (acc ++ [code]) ++ decL (row.drop j) = decL row := by
  obtain ⟨a, b, c, d⟩ := h
  rw [inner_full hc] at d
  rw [drop_getD hil, decL_some ho hf, d] at hE
  simp only [List.drop_drop, Option.getD_some] at hE
  rw [show i + 1 + (0 + (j - (i + 1))) = j by omega] at hE
  rw [List.append_assoc]
  exact hE
theorem Inner.broken (h : Inner row cnt lo hi code0 (i + 1) code count j least most) (hil : i < row.length) (ho : ¬ row.getD i 0 < 128) (hf : formN (row.getD i 0) = some (cnt, lo, hi, code0)) (hc : count < cnt)
    (he : row.length ≤ j ∨ ¬ least ≤ row.getD j 0 ∨ ¬ row.getD j 0 ≤ most) (hE : acc ++ decL (row.drop i) = decL row) : (acc ++ [65533]) ++ decL (row.drop j) = decL row := by
  obtain ⟨a, b, c, d⟩ := h
  rw [inner_exit hc he] at d
  rw [drop_getD hil, decL_some ho hf, d] at hE
  simp only [List.drop_drop, Option.getD_none] at hE
  rw [show i + 1 + (0 + (j - (i + 1))) = j by omega] at hE
  rw [List.append_assoc]
  exact hE
theorem dec_ascii (hi : i < row.length) (ho : row.getD i 0 < 128) (hE : acc ++ decL (row.drop i) = decL row) : (acc ++ [row.getD i 0]) ++ decL (row.drop (i + 1)) = decL row := by
  rw [drop_getD hi, decL_ascii ho] at hE
  rw [List.append_assoc]
  exact hE
theorem dec_none (hi : i < row.length) (ho : ¬ row.getD i 0 < 128) (hf : formN (row.getD i 0) = none) (hE : acc ++ decL (row.drop i) = decL row) : (acc ++ [65533]) ++ decL (row.drop (i + 1)) = decL row := by
  rw [drop_getD hi, decL_none ho hf] at hE
  rw [List.append_assoc]
  exact hE
end
theorem rep_list : (Str.ofString "�").cps.toList = [65533] := by decide +kernel
theorem rep_len : (Str.ofString "�").length = 1 := by decide +kernel
section
variable {row : List Nat} {out : Str} {i j code count cnt lo hi code0 least most : Nat}
abbrev SgP (row : List Nat) (out : Str) (i : Nat) : Prop := out.cps.toList ++ decL (row.drop i) = decL row ∧ i ≤ row.length ∧ out.length ≤ i
theorem sg_one (c : Nat) (h : (out.cps.toList ++ [c]) ++ decL (row.drop j) = decL row) (hj : j ≤ row.length) (hl : out.length < j) : SgP row (out ++ ⟨#[c]⟩) j := by
  refine ⟨?_, hj, ?_⟩
  · rw [Str.cps_append, Array.toList_append]
    exact h
  · rw [Str.length_append]
    show out.length + 1 ≤ j
    omega
theorem sg_rep (h : (out.cps.toList ++ [65533]) ++ decL (row.drop j) = decL row) (hj : j ≤ row.length) (hl : out.length < j) : SgP row (out ++ Str.ofString "�") j := by
  refine ⟨?_, hj, ?_⟩
  · rw [Str.cps_append, Array.toList_append, rep_list]
    exact h
  · rw [Str.length_append, rep_len]
    omega
theorem sg_ascii (hi : (i : Int) < ((zs row).length : Int)) (ho : ((row.getD (i : Int).toNat 0 : Nat) : Int) < 128) (hE : out.cps.toList ++ decL (row.drop i) = decL row) (hal : out.length ≤ i) :
    SgP row (out ++ ⟨#[((row.getD (i : Int).toNat 0 : Nat) : Int).toNat]⟩) (i + 1) := by
  simp only [zs, List.length_map, Int.toNat_natCast] at hi ho ⊢
  exact sg_one _ (dec_ascii (by omega) (by omega) hE) (by omega) (by omega)
theorem sg_none (hi : (i : Int) < ((zs row).length : Int)) (ho : ¬ ((row.getD (i : Int).toNat 0 : Nat) : Int) < 128) (hf : formN ((row.getD (i : Int).toNat 0 : Nat) : Int).toNat = none) (hE : out.cps.toList ++ decL (row.drop i) = decL row) (hal : out.length ≤ i) :
    SgP row (out ++ Str.ofString "�") (i + 1) := by
  simp only [zs, List.length_map, Int.toNat_natCast] at hi ho hf
  exact sg_rep (dec_none (by omega) (by omega) hf hE) (by omega) (by omega)
theorem sg_whole (hil : (i : Int) < ((zs row).length : Int)) (ho : ¬ ((row.getD (i : Int).toNat 0 : Nat) : Int) < 128) (hf : formN ((row.getD (i : Int).toNat 0 : Nat) : Int).toNat = some (cnt, lo, hi, code0)) (hE : out.cps.toList ++ decL (row.drop i) = decL row) (hal : out.length ≤ i)
    (hP : Inner row cnt lo hi code0 (i + 1) code count j least most) (hc : (count : Int) = cnt) :
    SgP row (out ++ ⟨#[(code : Int).toNat]⟩) j := by
  simp only [zs, List.length_map, Int.toNat_natCast] at hil ho hf ⊢
  obtain ⟨h1, h2, h3⟩ := hP.facts
  exact sg_one _ (hP.whole (by omega) (by omega) hf (by omega) hE) (by omega) (by omega)
theorem sg_broken (hil : (i : Int) < ((zs row).length : Int)) (ho : ¬ ((row.getD (i : Int).toNat 0 : Nat) : Int) < 128) (hf : formN ((row.getD (i : Int).toNat 0 : Nat) : Int).toNat = some (cnt, lo, hi, code0)) (hE : out.cps.toList ++ decL (row.drop i) = decL row) (hal : out.length ≤ i)
    (hP : Inner row cnt lo hi code0 (i + 1) code count j least most) (hX : cnt ≤ count ∨ row.length ≤ j ∨ ¬ least ≤ row.getD j 0 ∨ ¬ row.getD j 0 ≤ most) (hc : (count : Int) ≠ cnt) :
    SgP row (out ++ Str.ofString "�") j := by
  simp only [zs, List.length_map, Int.toNat_natCast] at hil ho hf
  obtain ⟨h1, h2, h3⟩ := hP.facts
  exact sg_rep (hP.broken (by omega) (by omega) hf (by omega) (hX.resolve_left (by omega)) hE) (by omega) (by omega)
theorem sg_step (hP : Inner row cnt lo hi code0 (i + 1) code count j least most) (hc : (count : Int) < cnt) (hj : (j : Int) < ((zs row).length : Int)) (h1 : (least : Int) ≤ ((row.getD (j : Int).toNat 0 : Nat) : Int)) (h2 : ((row.getD (j : Int).toNat 0 : Nat) : Int) ≤ most) :
    Inner row cnt lo hi code0 (i + 1) (code * 64 + row.getD j 0 % 64) (count + 1) (j + 1) 128 191 := by
  simp only [zs, List.length_map, Int.toNat_natCast] at hj h1 h2
  exact hP.step (by omega) (by omega) (by omega) (by omega)
theorem code_step : ((code : Int) * 64 + ((row.getD (j : Int).toNat 0 : Nat) : Int).fmod 64) = ((code * 64 + row.getD j 0 % 64 : Nat) : Int) := by
  rw [fmN _ (by decide), Int.toNat_natCast]
  omega
theorem sg_done (hi : ¬ (i : Int) < ((zs row).length : Int)) (hE : out.cps.toList ++ decL (row.drop i) = decL row) : out.cps.toList = decL row := by
  simp only [zs, List.length_map] at hi
  rw [List.drop_eq_nil_iff.mpr (by omega), decL_nil, List.append_nil] at hE
  exact hE
end
end Mine
end

section
open PySem PySem.W PyProof.Rows
namespace Mine
theorem u8_lt {c : Nat} (h : c < 1114112) : ∀ o ∈ u8 c, o < 256 := by
  unfold u8
  intro o ho
  split at ho
  · simp only [List.mem_cons, List.not_mem_nil, or_false] at ho; omega
  · split at ho
    · simp only [List.mem_cons, List.not_mem_nil, or_false] at ho; omega
    · split at ho
      · simp only [List.mem_cons, List.not_mem_nil, or_false] at ho; omega
      · simp only [List.mem_cons, List.not_mem_nil, or_false] at ho; omega
theorem pct_lt {c v : Nat} {r : List Nat} (h : pct c r = some v) : v < 256 := by
  unfold pct at h
  split at h
  · split at h
    · split at h
      · rename_i a b ha hb
        have h1 := hexv_lt ha
        have h2 := hexv_lt hb
        cases h
        omega
      · cases h
    · cases h
  · cases h
theorem rowL_lt : ∀ (n : Nat) (t : List Nat), t.length ≤ n → (∀ c ∈ t, Okc c) → ∀ o ∈ rowL t, o < 256 := by
  intro n
  induction n with
  | zero =>
    intro t ht hg
    cases t with
    | nil => intro o ho; cases ho
    | cons c r => simp at ht
  | succ n ih =>
    intro t ht hg
    cases t with
    | nil => intro o ho; cases ho
    | cons c r =>
      simp only [List.length_cons] at ht
      intro o ho
      cases h : pct c r with
      | some v =>
        rw [rowL_some h] at ho
        rcases List.mem_cons.mp ho with rfl | ho
        · exact pct_lt h
        · exact ih (r.drop 2) (by simp only [List.length_drop]; omega) (fun c hc => hg c (.tail _ (List.mem_of_mem_drop hc))) o ho
      | none =>
        rw [rowL_none h] at ho
        rcases List.mem_append.mp ho with ho | ho
        · have := hg c (.head _)
          unfold Okc at this
          exact u8_lt this.1 o ho
        · exact ih r (by omega) (fun c hc => hg c (.tail _ hc)) o ho
/-- one reading -/
def rd (t : List Nat) : List Nat := decL (rowL t)
theorem rd_len (t : List Nat) : (rd t).length ≤ 4 * t.length := Nat.le_trans (decL_len _ _ (Nat.le_refl _)) (rowL_len _ _ (Nat.le_refl _))
theorem rd_good (t : List Nat) : ∀ c ∈ rd t, Okc c := decL_good _ _ (Nat.le_refl _)
/-- up to n readings, while something changes -/
def rounds : Nat → List Nat → List Nat
  | 0, t => t
  | n + 1, t => if rd t = t then t else rounds n (rd t)
theorem good_rd {x y : Str} (h : y.cps.toList = rd x.cps.toList) : GoodT y := fun c hc => rd_good _ c (h ▸ hc)
theorem len_rd {x y : Str} (h : y.cps.toList = rd x.cps.toList) : y.length ≤ 4 * x.length := by
  have h1 := rd_len x.cps.toList
  rw [← h, Array.length_toList, Array.length_toList] at h1
  exact h1
theorem str_eq {x y : Str} (h : x.cps.toList = y.cps.toList) : x = y := Str.ext' (by
  have := congrArg List.toArray h
  simpa using this)
theorem rounds_stop {n : Nat} {x y : Str} (h : y.cps.toList = rd x.cps.toList) (e : (y == x) = true) : x.cps.toList = rounds (n + 1) x.cps.toList := by
  have e2 : y = x := beq_iff_eq.mp e
  rw [e2] at h
  simp only [rounds]
  rw [if_pos h.symm]
theorem rounds_go {n : Nat} {x y : Str} (h : y.cps.toList = rd x.cps.toList) (e : (y == x) = false) : rounds (n + 1) x.cps.toList = rounds n y.cps.toList := by
  simp only [rounds]
  rw [if_neg, h]
  intro h2
  have : y = x := str_eq (h.trans h2)
  rw [this] at e
  simp at e
theorem rounds_stop' {k : Nat} (hk : 0 < k) {x y : Str} (h : y.cps.toList = rd x.cps.toList) (e : (y == x) = true) : x.cps.toList = rounds k x.cps.toList := by
  obtain ⟨n, rfl⟩ : ∃ n, k = n + 1 := ⟨k - 1, by omega⟩
  exact rounds_stop h e
theorem rounds_go' {p : Nat} (hk : p < 3) {x y : Str} (h : y.cps.toList = rd x.cps.toList) (e : (y == x) = false) : rounds (3 - (p + 1)) y.cps.toList = rounds (3 - p) x.cps.toList := by
  have : 3 - p = (3 - (p + 1)) + 1 := by omega
  rw [this]
  exact (rounds_go h e).symm
theorem len_go {p : Nat} {x y : Str} (h : y.length ≤ 4 * x.length) (hx : x.length ≤ 4 ^ p * 1000) : y.length ≤ 4 ^ (p + 1) * 1000 := by
  rw [Nat.pow_succ]
  omega
end Mine
end

section
open PySem PySem.W PyProof.Rows
namespace Mine
open PySem.Builtin PySem.Builtin.Bytes
abbrev nats (b : Array UInt8) : List Nat := b.toList.map (·.toNat)
def foldStep (b : Array UInt8) (p lo hi : Nat) (acc : Except (Nat × String) Nat) (k : Nat) : Except (Nat × String) Nat :=
  acc.bind fun v =>
    match b[p + k]? with
    | none => .error (b.size, "unexpected end of data")
    | some x =>
      if (if k == 1 then lo else 0x80) ≤ x.toNat && x.toNat ≤ (if k == 1 then hi else 0xBF) then .ok (v * 64 + x.toNat % 64)
      else .error (p + k, "invalid continuation byte")
theorem fold_err (b : Array UInt8) (p lo hi : Nat) (e : Nat × String) : ∀ l : List Nat, l.foldl (foldStep b p lo hi) (.error e) = .error e
  | [] => rfl
  | k :: r => by
    rw [List.foldl_cons]
    exact fold_err b p lo hi e r
def foldOut (b : Array UInt8) (q : Nat) (r : Option Nat × Nat) : Except (Nat × String) Nat :=
  match r with
  | (some c, _) => .ok c
  | (none, j) => .error (q + j, if q + j < b.size then "invalid continuation byte" else "unexpected end of data")
theorem nats_drop {b : Array UInt8} {q : Nat} {x : UInt8} (h : b[q]? = some x) : (nats b).drop q = x.toNat :: (nats b).drop (q + 1) := by
  obtain ⟨hlt, he⟩ := Array.getElem?_eq_some_iff.mp h
  have hl : q < (nats b).length := by simpa using hlt
  rw [List.drop_eq_getElem_cons hl]
  congr 1
  simp [he]
theorem nats_end {b : Array UInt8} {q : Nat} (h : b[q]? = none) : b.size ≤ q ∧ (nats b).drop q = [] := by
  have hq : b.size ≤ q := by simpa using h
  refine ⟨hq, ?_⟩
  rw [List.drop_eq_nil_iff]
  simpa using hq
theorem cont_fold (b : Array UInt8) (p lo hi : Nat) : ∀ (n k v lo' hi' : Nat), 1 ≤ k → p + k ≤ b.size → lo' = (if k == 1 then lo else 0x80) → hi' = (if k == 1 then hi else 0xBF) →
    (List.range' k n).foldl (foldStep b p lo hi) (.ok v) = foldOut b (p + k) (contN n lo' hi' v ((nats b).drop (p + k))) := by
  intro n
  induction n with
  | zero => intro k v lo' hi' _ _ _ _; rfl
  | succ n ih =>
    intro k v lo' hi' hk hpk hlo hhi
    rw [List.range'_succ, List.foldl_cons]
    cases hx : b[p + k]? with
    | none =>
      obtain ⟨h1, h2⟩ := nats_end hx
      rw [h2]
      have e : foldStep b p lo hi (.ok v) k = .error (b.size, "unexpected end of data") := by
        unfold foldStep
        show (match b[p + k]? with | none => _ | some x => _) = _
        rw [hx]
      rw [e, fold_err]
      simp only [contN, foldOut]
      rw [if_neg (by omega)]
      congr 2
      omega
    | some x =>
      rw [nats_drop hx]
      have hlt : p + k < b.size := (Array.getElem?_eq_some_iff.mp hx).1
      simp only [contN]
      by_cases hc : lo' ≤ x.toNat ∧ x.toNat ≤ hi'
      · have e : foldStep b p lo hi (.ok v) k = .ok (v * 64 + x.toNat % 64) := by
          unfold foldStep
          show (match b[p + k]? with | none => _ | some x => _) = _
          rw [hx]
          dsimp only
          rw [← hlo, ← hhi, if_pos (by simp [hc.1, hc.2])]
        rw [e, if_pos hc, ih (k + 1) _ 128 191 (by omega) (by omega) (by rw [if_neg (by simp; omega)]) (by rw [if_neg (by simp; omega)])]
        rw [show p + (k + 1) = p + k + 1 by omega]
        cases contN n 128 191 (v * 64 + x.toNat % 64) ((nats b).drop (p + k + 1)) with
        | mk r j =>
          cases r with
          | some c => rfl
          | none =>
            simp only [foldOut]
            rw [show p + k + 1 + j = p + k + (j + 1) by omega]
      · have e : foldStep b p lo hi (.ok v) k = .error (p + k, "invalid continuation byte") := by
          unfold foldStep
          show (match b[p + k]? with | none => _ | some x => _) = _
          rw [hx]
          dsimp only
          rw [← hlo, ← hhi, if_neg (by simpa using hc)]
        rw [e, fold_err, if_neg hc]
        simp only [foldOut, Nat.add_zero]
        rw [if_pos hlt]
theorem cont_taken : ∀ (n lo hi code : Nat) (r : List Nat) (c k : Nat), contN n lo hi code r = (some c, k) → k = n := by
  intro n
  induction n with
  | zero => intro lo hi code r c k h; simp only [contN, Prod.mk.injEq] at h; exact h.2.symm
  | succ n ih =>
    intro lo hi code r c k h
    cases r with
    | nil => simp only [contN, Prod.mk.injEq] at h; cases h.1
    | cons x r =>
      simp only [contN] at h
      split at h
      · simp only [Prod.mk.injEq] at h
        obtain ⟨h1, h2⟩ := h
        have h3 := ih 128 191 _ r c _ (Prod.ext h1 rfl)
        rw [← h2]
        exact congrArg (· + 1) h3
      · simp only [Prod.mk.injEq] at h; cases h.1
theorem cont_le : ∀ (n lo hi code : Nat) (r : List Nat), (contN n lo hi code r).2 ≤ r.length := by
  intro n
  induction n with
  | zero => intro lo hi code r; simp [contN]
  | succ n ih =>
    intro lo hi code r
    cases r with
    | nil => simp [contN]
    | cons x r =>
      simp only [contN]
      split
      · have := ih 128 191 (code * 64 + x % 64) r
        simp only [List.length_cons]
        omega
      · simp
/-- the model's look for one sign, told by the plain law's words -/
theorem utf8_none {b : Array UInt8} {p : Nat} (h0 : ¬ (b.getD p 0).toNat < 128) (hf : formN (b.getD p 0).toNat = none) : utf8At b p = (.bad p (p + 1) "invalid start byte", p + 1) := by
  unfold utf8At
  unfold formN at hf
  generalize (b.getD p 0).toNat = c at h0 hf
  split at hf
  · cases hf
  · split at hf
    · cases hf
    · split at hf
      · cases hf
      · simp only [h0, if_false]
        rw [if_neg (by simp; omega), if_neg (by simp; omega), if_neg (by simp; omega), if_neg (by simp; omega), if_neg (by simp; omega), if_neg (by simp; omega), if_neg (by simp; omega)]
theorem utf8_ascii {b : Array UInt8} {p : Nat} (h0 : (b.getD p 0).toNat < 128) : utf8At b p = (.char (b.getD p 0).toNat, p + 1) := by
  unfold utf8At
  simp only [h0, if_true]
def utf8Out (p : Nat) (more : Nat) (r : Except (Nat × String) Nat) : Piece × Nat := match r with
  | .ok v => (.char v, p + more + 1)
  | .error (stop, reason) => (.bad p stop reason, stop)
theorem utf8_some {b : Array UInt8} {p cnt lo hi code : Nat} (h0 : ¬ (b.getD p 0).toNat < 128) (hf : formN (b.getD p 0).toNat = some (cnt, lo, hi, code)) (hp : p < b.size) :
    utf8At b p = utf8Out p cnt (foldOut b (p + 1) (contN cnt lo hi code ((nats b).drop (p + 1)))) := by
  rw [← cont_fold b p lo hi cnt 1 code lo hi (Nat.le_refl _) (by omega) rfl rfl]
  unfold utf8At
  unfold formN at hf
  generalize (b.getD p 0).toNat = c at h0 hf
  simp only [h0, if_false]
  split at hf
  · rename_i h
    simp only [Option.some.injEq, Prod.mk.injEq] at hf
    obtain ⟨rfl, rfl, rfl, rfl⟩ := hf
    rw [if_pos (by simp; omega)]
    dsimp only
    rw [show c % (if (1 == 1) = true then 32 else if (1 == 2) = true then 16 else 8) = c - 192 by simp; omega]
    rfl
  · split at hf
    · rename_i h1 h
      simp only [Option.some.injEq, Prod.mk.injEq] at hf
      obtain ⟨rfl, rfl, rfl, rfl⟩ := hf
      rw [if_neg (by simp; omega)]
      have e16 : c % 16 = c - 224 := by omega
      by_cases h2 : c = 224
      · subst h2
        rfl
      · by_cases h3 : c = 237
        · subst h3
          rfl
        · rw [if_neg (by simp; omega), if_neg (by simp; omega), if_pos (by simp; omega), if_neg h2, if_neg h3]
          dsimp only
          rw [show c % (if (2 == 1) = true then 32 else if (2 == 2) = true then 16 else 8) = c - 224 by simp; omega]
          rfl
    · split at hf
      · rename_i h1 h2 h
        simp only [Option.some.injEq, Prod.mk.injEq] at hf
        obtain ⟨rfl, rfl, rfl, rfl⟩ := hf
        rw [if_neg (by simp; omega), if_neg (by simp; omega), if_neg (by simp; omega), if_neg (by simp; omega)]
        by_cases h3 : c = 240
        · subst h3
          rfl
        · by_cases h4 : c = 244
          · subst h4
            rfl
          · rw [if_neg (by simp; omega), if_pos (by simp; omega), if_neg h3, if_neg h4]
            dsimp only
            rw [show c % (if (3 == 1) = true then 32 else if (3 == 2) = true then 16 else 8) = c - 240 by simp; omega]
            rfl
      · cases hf
theorem getD_nats {b : Array UInt8} {p : Nat} (hp : p < b.size) : b[p]? = some (b.getD p 0) := by
  rw [Array.getD_eq_getD_getElem?, Array.getElem?_eq_getElem hp]
  rfl
/-- what one look of the decoder finds: a sign, or a fault, and where it goes on -/
inductive Look (b : Array UInt8) (p : Nat) : Piece × Nat → Prop where
  | char {c next : Nat} : p < next → next ≤ b.size → decL ((nats b).drop p) = c :: decL ((nats b).drop next) → Look b p (.char c, next)
  | bad {stop : Nat} {reason : String} : p < stop → stop ≤ b.size → (Str.ofString reason).length ≤ 100 → decL ((nats b).drop p) = 65533 :: decL ((nats b).drop stop) → Look b p (.bad p stop reason, stop)
theorem look_at {b : Array UInt8} {p : Nat} (hp : p < b.size) : Look b p (utf8At b p) := by
  have hd := nats_drop (getD_nats hp)
  by_cases h0 : (b.getD p 0).toNat < 128
  · rw [utf8_ascii h0]
    exact .char (by omega) (by omega) (by rw [hd, decL_ascii h0])
  · cases hf : formN (b.getD p 0).toNat with
    | none =>
      rw [utf8_none h0 hf]
      exact .bad (by omega) (by omega) (by decide +kernel) (by rw [hd, decL_none h0 hf])
    | some q =>
      obtain ⟨cnt, lo, hi, code⟩ := q
      rw [utf8_some h0 hf hp]
      replace hd := congrArg decL hd
      rw [decL_some h0 hf, List.drop_drop] at hd
      have hle := cont_le cnt lo hi code ((nats b).drop (p + 1))
      simp only [List.length_drop, List.length_map, Array.length_toList] at hle
      cases hc : contN cnt lo hi code ((nats b).drop (p + 1)) with
      | mk r j =>
        rw [hc] at hd hle
        dsimp only at hle
        cases r with
        | some c =>
          have hj := cont_taken _ _ _ _ _ _ _ hc
          subst hj
          simp only [foldOut, utf8Out]
          exact .char (by omega) (by omega) (by rw [show p + j + 1 = p + 1 + j by omega]; exact hd)
        | none =>
          simp only [foldOut, utf8Out]
          refine .bad (by omega) (by omega) ?_ hd
          split <;> decide +kernel
end Mine
end

section
open PySem PySem.W PyProof.Rows
namespace Mine
abbrev boxO (sc : Addr) (p : Int) (tp : Tok) (z : Int) (tz : Tok) (n : Nat) : Obj := listOf #[.ref sc, .int p tp, .int z tz] n

local macro_rules | `(tactic| k_all) => `(tactic| assumption)

section
variable {prog : Program} {w : World} {pp : Program} {loose : List Str} {mean : ExcName → Option Value} {mg mb : Str → Option Value} {dp un : Nat} {gd : Option (List Code)} {cn : Str} {cs : Scope} {a : Addr} {ccd : Value} {cl : List (Str × Addr)} {outer : List Env} {A₀ : Around} {base h₀ : Heap} {L : Addr} {m : Str → Option Value} {s : Shared} {Q E : Value → Shared → Prop}
    {rest : List (Addr × Obj)} {b sc : Addr} {vs : List Value} {ns : List Int} {p z size : Int} {tp tz st : Tok} {n : Nat}
set_option maxRecDepth 100000 in
set_option maxHeartbeats 8000000 in
theorem draw_spec 
    (B : Below A₀ base outer h₀) (F : Fr h₀ L s.heap m) (X : (Mine.hd.heap_39 w.params).In h₀) (N : News h₀ L s.heap ((b, boxO sc p tp z tz n) :: rest)) (T : Top pp loose mean mg mb h₀) (hk : cs.kind = .function)
    (hl : base.IsList sc vs.toArray) (hi : IntsAre vs ns) (hfit : ns.length < 2 ^ 62) (hoff : ∀ q ∈ rest, q.1 ≠ b)
    (hp : 0 ≤ p) (hp2 : p < 1000000) (hz : 0 ≤ z) (hz2 : z < 2147483647) (hs1 : 0 < size) (hs2 : size < 1000000)
    (hd : dp + 1 < recursionLimit) (hu : un + 8 < cLine)
    (hret : ∀ (t : Tok) (h' : Heap) (tk' : Nat) (r z' : Int) (tp' tz' : Tok) (n' : Nat), Fr h₀ L h' m → News h₀ L h' ((b, boxO sc (p+1) tp' z' tz' n') :: rest) → 0 ≤ z' → z' < 2147483647 → 0 ≤ r → r < size →
      Q (.int r t) { s with heap := h', toks := tk' }) :
    wpAny (model prog w) (ktrTop dp un gd cn cs L a ccd cl outer) (call (.ref 449) [.ref b, .int size st]) Q E s := by
  refine wpAny_call ?_
  k_dflt cell_enter
  k_steps
  · refine hret _ _ _ _ _ _ _ _ (by assumption) (by assumption) ?_ ?_ ?_ ?_
    · exact Int.fmod_nonneg_of_pos _ (by decide)
    · exact Int.fmod_lt_of_pos _ (by decide)
    · exact Int.fmod_nonneg_of_pos _ hs1
    · exact Int.fmod_lt_of_pos _ hs1
  · refine hret _ _ _ _ _ _ _ _ (by assumption) (by assumption) ?_ ?_ ?_ ?_
    · exact Int.fmod_nonneg_of_pos _ (by decide)
    · exact Int.fmod_lt_of_pos _ (by decide)
    · exact Int.fmod_nonneg_of_pos _ hs1
    · exact Int.fmod_lt_of_pos _ hs1
end
end Mine
end

section
open PySem PySem.W PyProof.Rows
namespace Mine
theorem news_swap {h₀ h : Heap} {L : Addr} {x y : Addr × Obj} {r : List (Addr × Obj)} (N : News h₀ L h (x :: y :: r)) : News h₀ L h (y :: x :: r) := fun p hp => N p (by
  rcases List.mem_cons.mp hp with rfl | hp
  · exact .tail _ (.head _)
  · rcases List.mem_cons.mp hp with rfl | hp
    · exact .head _
    · exact .tail _ (.tail _ hp))
theorem item_any {prog : Program} {w : World} {A : Around} {E : Value → Shared → Prop} {s : Shared} {value slice : PySem.Expr} {l : Addr} {us : List Value} {i : Int} {u : Tok} {Q : Value → Shared → Prop}
    (hl : s.heap.IsList l us.toArray) (h0 : 0 ≤ i) (hhi : i < us.length) (hfit : us.length < 2 ^ 62) (h : ∀ v ∈ us, Q v s)
    (hs : subscripted slice false (.ref l) (.int i u) = operate [.ref l, .int i u] (getItem (.ref l) (.int i u)) := by with_unfolding_all rfl) :
    wpAny (model prog w) A (subscriptTail value slice (.ref l) (.int i u)) Q E s := by
  have hlt : i.toNat < us.length := by omega
  exact tail_any hl.typeIs slot_list_getitem.lookup (wpAny_getItem_list hl h0 (by omega) (by simpa using List.getElem?_eq_getElem hlt) (h _ (List.getElem_mem hlt))) hs

local macro_rules | `(tactic| k_all) => `(tactic| assumption)
local macro_rules | `(tactic| walk_at "call ref") => `(tactic| (k_here; (with_reducible show wpAny _ _ (call (Value.ref 449) _ _) _ _ _); k_dflt (refine' draw_spec ?k1 ?k2 ?k3 ?k4 ?k5 ?k6 ?k7 ?k8 ?k9 ?k10 ?k11 ?k12 ?k13 ?k14 ?k15 ?k16 ?k17 ?k18 ?_; (case k1 => k_asm); (case k2 => k_asm); (case k3 => k_asm); (case k4 => first | k_asm | exact news_swap (by k_asm)); (case k5 => k_asm); (case k6 => first | rfl | assumption); (case k7 => k_asm); (case k8 => k_asm); (case k9 => assumption); (case k10 => k_all); (case k11 => omega); (case k12 => omega); (case k13 => omega); (case k14 => omega); (case k15 => omega); (case k16 => omega); (case k17 => ktr_room); (case k18 => ktr_units); k_whole); intro t' h' tk' r' z' tp' tz' n' F' N' hz1' hz2' hr1' hr2'))
local macro_rules | `(tactic| walk_at "subscriptTail Name Call ref int") => `(tactic| (k_here; k_dflt (refine' item_any ?k1 ?k2 ?k3 ?k4 ?_ ?k5; (case k1 => is_list); (case k2 => omega); (case k3 => omega); (case k4 => omega); (case k5 => with_unfolding_all rfl); k_whole); intro v' hv'))
local macro_rules | `(tactic| walk_at "call builtin:len") => `(tactic| (k_here; (with_reducible show wpAny _ _ (call (Value.builtin "len") [Value.ref _]) _ _ _); k_dflt (refine' len_list ?k1 ?k2 ?_; (case k1 => is_list); (case k2 => ((try simp only [List.size_toArray]); omega)); k_whole); (try simp only [List.size_toArray])))
section
variable {prog : Program} {w : World} {pp : Program} {loose : List Str} {mean : ExcName → Option Value} {mg mb : Str → Option Value} {dp un : Nat} {gd : Option (List Code)} {cn : Str} {cs : Scope} {a : Addr} {ccd : Value} {cl : List (Str × Addr)} {outer : List Env} {A₀ : Around} {base h₀ : Heap} {L : Addr} {m : Str → Option Value} {s : Shared} {Q E : Value → Shared → Prop}
    {rest : List (Addr × Obj)} {b sc l : Addr} {vs us : List Value} {ns : List Int} {p z size : Int} {tp tz st : Tok} {n k : Nat}
set_option maxRecDepth 100000 in
set_option maxHeartbeats 8000000 in
theorem pick_spec 
    (B : Below A₀ base outer h₀) (F : Fr h₀ L s.heap m) (X : (Mine.hd.heap_39 w.params).In h₀) (N : News h₀ L s.heap ((b, boxO sc p tp z tz n) :: rest)) (T : Top pp loose mean mg mb h₀) (hk : cs.kind = .function)
    (hl : base.IsList sc vs.toArray) (hi : IntsAre vs ns) (hfit : ns.length < 2 ^ 62) (hoff : ∀ q ∈ rest, q.1 ≠ b)
    (hp : 0 ≤ p) (hp2 : p < 1000000) (hz : 0 ≤ z) (hz2 : z < 2147483647) 
    (hrows : h₀.IsList l us.toArray) (hu1 : 0 < us.length) (hu2 : us.length < 1000000)
    (hd : dp + 2 < recursionLimit) (hu : un + 16 < cLine)
    (hret : ∀ (v : Value) (h' : Heap) (tk' : Nat) (z' : Int) (tp' tz' : Tok) (n' : Nat), Fr h₀ L h' m → News h₀ L h' ((b, boxO sc (p+1) tp' z' tz' n') :: rest) → 0 ≤ z' → z' < 2147483647 → v ∈ us →
      Q v { s with heap := h', toks := tk' }) :
    wpAny (model prog w) (ktrTop dp un gd cn cs L a ccd cl outer) (call (.ref 456) [.ref b, .ref l]) Q E s := by
  refine wpAny_call ?_
  k_dflt cell_enter
  rename Fr h₀ L _ m => FG
  have hr2 := stays_list FG.keep hrows
  k_steps
  exact hret _ _ _ _ _ _ _ (by assumption) (by assumption) (by assumption) (by assumption) (by assumption)
set_option maxRecDepth 100000 in
set_option maxHeartbeats 8000000 in
theorem pick_spec2 
    (B : Below A₀ base outer h₀) (F : Fr h₀ L s.heap m) (X : (Mine.hd.heap_39 w.params).In h₀) (N : News h₀ L s.heap ((b, boxO sc p tp z tz n) :: (l, listOf us.toArray k) :: rest)) (T : Top pp loose mean mg mb h₀) (hk : cs.kind = .function)
    (hl : base.IsList sc vs.toArray) (hi : IntsAre vs ns) (hfit : ns.length < 2 ^ 62) (hoff : ∀ q ∈ rest, q.1 ≠ b) (hlb : l ≠ b)
    (hp : 0 ≤ p) (hp2 : p < 1000000) (hz : 0 ≤ z) (hz2 : z < 2147483647) 
    (hu1 : 0 < us.length) (hu2 : us.length < 1000000)
    (hd : dp + 2 < recursionLimit) (hu : un + 16 < cLine)
    (hret : ∀ (v : Value) (h' : Heap) (tk' : Nat) (z' : Int) (tp' tz' : Tok) (n' : Nat), Fr h₀ L h' m → News h₀ L h' ((b, boxO sc (p+1) tp' z' tz' n') :: (l, listOf us.toArray k) :: rest) → 0 ≤ z' → z' < 2147483647 → v ∈ us →
      Q v { s with heap := h', toks := tk' }) :
    wpAny (model prog w) (ktrTop dp un gd cn cs L a ccd cl outer) (call (.ref 456) [.ref b, .ref l]) Q E s := by
  refine wpAny_call ?_
  k_dflt cell_enter
  have hlb' := neN hlb
  k_steps
  exact hret _ _ _ _ _ _ _ (by assumption) (by assumption) (by assumption) (by assumption) (by assumption)
end
end Mine
end

section
open PySem PySem.W PyProof.Rows
namespace Mine
local macro_rules | `(tactic| k_all) => `(tactic| assumption)
local macro_rules | `(tactic| walk_at "call ref") => `(tactic| (k_here; (with_reducible show wpAny _ _ (call (Value.ref 456) _ _) _ _ _); k_dflt (refine' pick_spec2 ?k1 ?k2 ?k3 ?k4 ?k5 ?k6 ?k7 ?k8 ?k9 ?k10 ?k11 ?k12 ?k13 ?k14 ?k15 ?k16 ?k17 ?k18 ?k19 ?_; (case k1 => k_asm); (case k2 => k_asm); (case k3 => k_asm); (case k4 => first | k_asm | exact news_swap (by k_asm)); (case k5 => k_asm); (case k6 => first | rfl | assumption); (case k7 => k_asm); (case k8 => k_asm); (case k9 => assumption); (case k10 => k_all); (case k11 => k_ne); (case k12 => omega); (case k13 => omega); (case k14 => omega); (case k15 => omega); (case k16 => decide); (case k17 => decide); (case k18 => ktr_room); (case k19 => ktr_units); k_whole); intro v' h' tk' z' tp' tz' n' F' N' hz1' hz2' hv'; (obtain ⟨x', t', hv2, hFig'⟩ := fig_mem hv'); subst hv2))
local macro_rules | `(tactic| walk_at "subscriptTail Name BinOp") => `(tactic| (k_here; (with_reducible show wpAny _ _ (subscriptTail _ _ (Value.str _ _) (Value.int _ _)) _ _ _); k_dflt (refine' item_fig ?k1 ?k2 ?k3 ?_ ?k4 ?k5; (case k1 => assumption); (case k2 => ((simp only [fdiv16, fmod16]); omega)); (case k3 => ((simp only [fdiv16, fmod16]); omega)); (case k4 => with_unfolding_all rfl); (case k5 => (intro _; with_unfolding_all rfl)); k_whole); intro c' hc'))
section
local macro_rules | `(tactic| walk_at "pyIter ref") => `(tactic| ((with_reducible show wpAny _ _ (pyIter (Value.ref _)) (fun it s₂ => LoopAtV _ _ _ _ _ _ _ _ _ it s₂) _ _); k_extra "written loop"))
local macro_rules | `(tactic| walk_at "exec For Name Name cons nil") => `(tactic| (k_here; (rename Fr _ _ _ _ => lF'); (with_unfolding_all refine' For_invVF lF' ?k1 ?k2 ?_; (case k1 => exact rfl); (case k2 => exact rfl); k_whole)))
structure WS where
  out : Str
  to : Tok
  p : Int
  tp : Tok
  z : Int
  tz : Tok
  n : Nat
variable {prog : Program} {w : World} {pp : Program} {loose : List Str} {mean : ExcName → Option Value} {mg mb : Str → Option Value} {dp un : Nat} {gd : Option (List Code)} {cn : Str} {cs : Scope} {a : Addr} {ccd : Value} {cl : List (Str × Addr)} {outer : List Env} {A₀ : Around} {base h₀ : Heap} {L : Addr} {m : Str → Option Value} {s : Shared} {Q E : Value → Shared → Prop}
    {rest : List (Addr × Obj)} {b sc l : Addr} {vs us : List Value} {ns os : List Int} {p z size : Int} {tp tz st : Tok} {n k : Nat}
set_option maxRecDepth 100000 in
set_option maxHeartbeats 8000000 in
theorem written_spec 
    (B : Below A₀ base outer h₀) (F : Fr h₀ L s.heap m) (X : (Mine.hd.heap_39 w.params).In h₀) (N : News h₀ L s.heap ((b, boxO sc p tp z tz n) :: rest)) (T : Top pp loose mean mg mb h₀) (hk : cs.kind = .function)
    (hl : base.IsList sc vs.toArray) (hi : IntsAre vs ns) (hfit : ns.length < 2 ^ 62) (hoff : ∀ q ∈ rest, q.1 ≠ b)
    (hp : 0 ≤ p) (hp2 : p < 900000) (hz : 0 ≤ z) (hz2 : z < 2147483647) 
    (hrows : h₀.IsList l us.toArray) (hos : IntsAre us os) (ho : ∀ o ∈ os, 0 ≤ o ∧ o < 256) (hu2 : os.length ≤ 5)
    (hd : dp + 3 < recursionLimit) (hu : un + 24 < cLine)
    (hret : ∀ (x : Str) (t : Tok) (h' : Heap) (tk' : Nat) (z' : Int) (tp' tz' : Tok) (n' : Nat), Fr h₀ L h' m → News h₀ L h' ((b, boxO sc (p + os.length) tp' z' tz' n') :: rest) → 0 ≤ z' → z' < 2147483647 → Esc os x.cps.toList →
      Q (.str x t) { s with heap := h', toks := tk' }) :
    wpAny (model prog w) (ktrTop dp un gd cn cs L a ccd cl outer) (call (.ref 463) [.ref b, .ref l]) Q E s := by
  refine wpAny_call ?_
  k_dflt cell_enter
  rename Fr h₀ L _ m => FG
  have hr2 := stays_list FG.keep hrows
  (k_with "written loop" => (
    rename Fr _ _ _ _ => lF
    rename News _ _ _ _ => lN
    with_unfolding_all refine' kst_list (σ := WS) (fun c => (b, boxO sc c.p c.tp c.z c.tz c.n) :: rest) (fun c => [(Str.ofString "out", .str c.out c.to)]) (fun _ => True) [Str.ofString "figures"] (fun pre c => Esc pre c.out.cps.toList ∧ c.p = p + pre.length ∧ 0 ≤ c.z ∧ c.z < 2147483647) ⟨Str.ofString "", _, p, tp, z, tz, n⟩ (by rfl) hr2 hos lF lN True.intro ?kk ?kp ?kturn ?kdone
    case kk => kst_all
    case kp => exact ⟨esc_nil, by simp, hz, hz2⟩
    clear lF lN
    case' kturn =>
      intro c pre post o t u h2 tk2 own heq hmem hoff2 _ hP F2 N2
      obtain ⟨out, to, p', tp', z', tz', n'⟩ := c
      obtain ⟨hE, hp', hz1', hz2'⟩ := hP
      dsimp only [kstB] at hE hp' hz1' hz2' F2 N2
      have hlen := hE.len
      have hb2 : ∀ q ∈ rest ++ own, q.1 ≠ b := fun q hq => (List.mem_append.mp hq).elim (hoff q) (hoff2.ne (List.Mem.head _) q)
      have hol := ho o hmem
      have hpl : pre.length < os.length := by rw [heq]; simp
      simp only [List.cons_append] at N2
      try dsimp only
      show wpAny _ _ _ _ _ _
      try k_fold
    case' kdone =>
      intro c u h2 tk2 _ hP F2 N2
      obtain ⟨out, to, p', tp', z', tz', n'⟩ := c
      obtain ⟨hE, hp', hz1', hz2'⟩ := hP
      dsimp only [kstB] at hE hp' hz1' hz2' F2 N2
      try k_fold))
  k_steps
  · exact hret _ _ _ _ _ _ _ _ (by assumption) (by rw [← hp']; assumption) hz1' hz2' hE
  · rename Fr _ _ _ _ => F9
    rename News _ _ _ _ => N9
    refine kst_end (⟨_, _, _, _, _, _, _⟩ : WS) F9 N9 (by kst_in) (by intro q hq; kst_mem) (by rfl) True.intro (by kst_all) (by kst_same) ?ke
    case ke =>
      exact ⟨esc_step hE (by assumption) (by assumption), by simp only [List.length_append, List.length_cons, List.length_nil]; omega, by assumption, by assumption⟩
set_option maxRecDepth 100000 in
set_option maxHeartbeats 8000000 in
theorem written_spec2 
    (B : Below A₀ base outer h₀) (F : Fr h₀ L s.heap m) (X : (Mine.hd.heap_39 w.params).In h₀) (N : News h₀ L s.heap ((b, boxO sc p tp z tz n) :: (l, listOf us.toArray k) :: rest)) (T : Top pp loose mean mg mb h₀) (hk : cs.kind = .function)
    (hl : base.IsList sc vs.toArray) (hi : IntsAre vs ns) (hfit : ns.length < 2 ^ 62) (hoff : ∀ q ∈ rest, q.1 ≠ b) (hlb : l ≠ b)
    (hp : 0 ≤ p) (hp2 : p < 900000) (hz : 0 ≤ z) (hz2 : z < 2147483647) 
    (hos : IntsAre us os) (ho : ∀ o ∈ os, 0 ≤ o ∧ o < 256) (hu2 : os.length ≤ 5)
    (hd : dp + 3 < recursionLimit) (hu : un + 24 < cLine)
    (hret : ∀ (x : Str) (t : Tok) (h' : Heap) (tk' : Nat) (z' : Int) (tp' tz' : Tok) (n' : Nat), Fr h₀ L h' m → News h₀ L h' ((b, boxO sc (p + os.length) tp' z' tz' n') :: (l, listOf us.toArray k) :: rest) → 0 ≤ z' → z' < 2147483647 → Esc os x.cps.toList →
      Q (.str x t) { s with heap := h', toks := tk' }) :
    wpAny (model prog w) (ktrTop dp un gd cn cs L a ccd cl outer) (call (.ref 463) [.ref b, .ref l]) Q E s := by
  refine wpAny_call ?_
  k_dflt cell_enter
  have hlb' := neN hlb
  (k_with "written loop" => (
    rename Fr _ _ _ _ => lF
    rename News _ _ _ _ => lN
    with_unfolding_all refine' kst_listL (σ := WS) (fun c => (b, boxO sc c.p c.tp c.z c.tz c.n) :: (l, listOf us.toArray k) :: rest) (fun c => [(Str.ofString "out", .str c.out c.to)]) (fun _ => True) [Str.ofString "figures"] (fun pre c => Esc pre c.out.cps.toList ∧ c.p = p + pre.length ∧ 0 ≤ c.z ∧ c.z < 2147483647) ⟨Str.ofString "", _, p, tp, z, tz, n⟩ (by rfl) (fun _ => .tail _ (.head _)) hos lF lN True.intro ?kk ?kp ?kturn ?kdone
    case kk => kst_all
    case kp => exact ⟨esc_nil, by simp, hz, hz2⟩
    clear lF lN
    case' kturn =>
      intro c pre post o t u h2 tk2 own heq hmem hoff2 _ hP F2 N2
      obtain ⟨out, to, p', tp', z', tz', n'⟩ := c
      obtain ⟨hE, hp', hz1', hz2'⟩ := hP
      dsimp only [kstB] at hE hp' hz1' hz2' F2 N2
      have hlen := hE.len
      have hb2 : ∀ q ∈ rest ++ own, q.1 ≠ b := fun q hq => (List.mem_append.mp hq).elim (hoff q) (hoff2.ne (List.Mem.head _) q)
      have hol := ho o hmem
      have hpl : pre.length < os.length := by rw [heq]; simp
      simp only [List.cons_append] at N2
      try dsimp only
      show wpAny _ _ _ _ _ _
      try k_fold
    case' kdone =>
      intro c u h2 tk2 _ hP F2 N2
      obtain ⟨out, to, p', tp', z', tz', n'⟩ := c
      obtain ⟨hE, hp', hz1', hz2'⟩ := hP
      dsimp only [kstB] at hE hp' hz1' hz2' F2 N2
      try k_fold))
  k_steps
  · exact hret _ _ _ _ _ _ _ _ (by assumption) (by rw [← hp']; assumption) hz1' hz2' hE
  · rename Fr _ _ _ _ => F9
    rename News _ _ _ _ => N9
    refine kst_end (⟨_, _, _, _, _, _, _⟩ : WS) F9 N9 (by kst_in) (by intro q hq; kst_mem) (by rfl) True.intro (by kst_all) (by kst_same) ?ke
    case ke =>
      exact ⟨esc_step hE (by assumption) (by assumption), by simp only [List.length_append, List.length_cons, List.length_nil]; omega, by assumption, by assumption⟩
end
end Mine
end

section
open PySem PySem.W PyProof.Rows
namespace Mine
def rightRows : List (List Int) := [[65], [127], [194, 128], [223, 191], [224, 160, 128], [225, 128, 128], [236, 191, 191], [237, 159, 191], [238, 128, 128], [239, 191, 191], [240, 144, 128, 128], [241, 128, 128, 128], [243, 191, 191, 191], [244, 143, 191, 191]]
def brokenRows : List (List Int) := [[128], [191], [192], [193], [192, 128], [194], [223], [224], [224, 128], [224, 159], [224, 160], [225, 128], [237, 160], [237, 160, 128], [237, 191, 191], [240], [240, 128], [240, 143], [240, 144], [240, 144, 128], [243, 191, 191], [244], [244, 143, 191], [244, 144], [244, 144, 128, 128], [245], [248, 136, 128, 128, 128], [254], [255]]
theorem list_at {K : Frag} {h : Heap} (X : K.In h) {l : Addr} {us : List Value} {n : Nat} (e : K.lookup l = some { cls := .type "list", dict := none, data := .seq us.toArray n, slots := #[] }) : h.IsList l us.toArray := ⟨_, X _ _ e, rfl, _, rfl⟩
/-- an item of a top's table: a list of ints of that table -/
def RowOf (h : Heap) (rows : List (List Int)) (v : Value) : Prop := ∃ l us os, v = .ref l ∧ h.IsList l us.toArray ∧ IntsAre us os ∧ os ∈ rows
theorem rowOf_at {K : Frag} {h : Heap} (X : K.In h) {rows : List (List Int)} {l : Addr} {us : List Value} {os : List Int} {n : Nat} (e : K.lookup l = some { cls := .type "list", dict := none, data := .seq us.toArray n, slots := #[] }) (hi : IntsAre us os) (hm : os ∈ rows) : RowOf h rows (.ref l) :=
  ⟨l, us, os, rfl, list_at X e, hi, hm⟩

set_option maxRecDepth 100000 in
theorem right_list {w : World} {h : Heap} (X : (Mine.hd.heap_39 w.params).In h) : h.IsList 411 ([.ref 397, .ref 398, .ref 399, .ref 400, .ref 401, .ref 402, .ref 403, .ref 404, .ref 405, .ref 406, .ref 407, .ref 408, .ref 409, .ref 410] : List Value).toArray := list_at X (by k_is)
set_option maxRecDepth 100000 in
theorem right_mem {w : World} {h : Heap} (X : (Mine.hd.heap_39 w.params).In h) : ∀ v ∈ ([.ref 397, .ref 398, .ref 399, .ref 400, .ref 401, .ref 402, .ref 403, .ref 404, .ref 405, .ref 406, .ref 407, .ref 408, .ref 409, .ref 410] : List Value), RowOf h rightRows v := by
  intro v hv
  simp only [List.mem_cons, List.not_mem_nil, or_false] at hv
  rcases hv with rfl | rfl | rfl | rfl | rfl | rfl | rfl | rfl | rfl | rfl | rfl | rfl | rfl | rfl
  · exact rowOf_at X (us := [.int 65 _]) (by k_is) (.cons 65 _ .nil) (by decide)
  · exact rowOf_at X (us := [.int 127 _]) (by k_is) (.cons 127 _ .nil) (by decide)
  · exact rowOf_at X (us := [.int 194 _, .int 128 _]) (by k_is) (.cons 194 _ (.cons 128 _ .nil)) (by decide)
  · exact rowOf_at X (us := [.int 223 _, .int 191 _]) (by k_is) (.cons 223 _ (.cons 191 _ .nil)) (by decide)
  · exact rowOf_at X (us := [.int 224 _, .int 160 _, .int 128 _]) (by k_is) (.cons 224 _ (.cons 160 _ (.cons 128 _ .nil))) (by decide)
  · exact rowOf_at X (us := [.int 225 _, .int 128 _, .int 128 _]) (by k_is) (.cons 225 _ (.cons 128 _ (.cons 128 _ .nil))) (by decide)
  · exact rowOf_at X (us := [.int 236 _, .int 191 _, .int 191 _]) (by k_is) (.cons 236 _ (.cons 191 _ (.cons 191 _ .nil))) (by decide)
  · exact rowOf_at X (us := [.int 237 _, .int 159 _, .int 191 _]) (by k_is) (.cons 237 _ (.cons 159 _ (.cons 191 _ .nil))) (by decide)
  · exact rowOf_at X (us := [.int 238 _, .int 128 _, .int 128 _]) (by k_is) (.cons 238 _ (.cons 128 _ (.cons 128 _ .nil))) (by decide)
  · exact rowOf_at X (us := [.int 239 _, .int 191 _, .int 191 _]) (by k_is) (.cons 239 _ (.cons 191 _ (.cons 191 _ .nil))) (by decide)
  · exact rowOf_at X (us := [.int 240 _, .int 144 _, .int 128 _, .int 128 _]) (by k_is) (.cons 240 _ (.cons 144 _ (.cons 128 _ (.cons 128 _ .nil)))) (by decide)
  · exact rowOf_at X (us := [.int 241 _, .int 128 _, .int 128 _, .int 128 _]) (by k_is) (.cons 241 _ (.cons 128 _ (.cons 128 _ (.cons 128 _ .nil)))) (by decide)
  · exact rowOf_at X (us := [.int 243 _, .int 191 _, .int 191 _, .int 191 _]) (by k_is) (.cons 243 _ (.cons 191 _ (.cons 191 _ (.cons 191 _ .nil)))) (by decide)
  · exact rowOf_at X (us := [.int 244 _, .int 143 _, .int 191 _, .int 191 _]) (by k_is) (.cons 244 _ (.cons 143 _ (.cons 191 _ (.cons 191 _ .nil)))) (by decide)
set_option maxRecDepth 100000 in
theorem broken_list {w : World} {h : Heap} (X : (Mine.hd.heap_39 w.params).In h) : h.IsList 441 ([.ref 412, .ref 413, .ref 414, .ref 415, .ref 416, .ref 417, .ref 418, .ref 419, .ref 420, .ref 421, .ref 422, .ref 423, .ref 424, .ref 425, .ref 426, .ref 427, .ref 428, .ref 429, .ref 430, .ref 431, .ref 432, .ref 433, .ref 434, .ref 435, .ref 436, .ref 437, .ref 438, .ref 439, .ref 440] : List Value).toArray := list_at X (by k_is)
set_option maxRecDepth 100000 in
theorem broken_mem {w : World} {h : Heap} (X : (Mine.hd.heap_39 w.params).In h) : ∀ v ∈ ([.ref 412, .ref 413, .ref 414, .ref 415, .ref 416, .ref 417, .ref 418, .ref 419, .ref 420, .ref 421, .ref 422, .ref 423, .ref 424, .ref 425, .ref 426, .ref 427, .ref 428, .ref 429, .ref 430, .ref 431, .ref 432, .ref 433, .ref 434, .ref 435, .ref 436, .ref 437, .ref 438, .ref 439, .ref 440] : List Value), RowOf h brokenRows v := by
  intro v hv
  simp only [List.mem_cons, List.not_mem_nil, or_false] at hv
  rcases hv with rfl | rfl | rfl | rfl | rfl | rfl | rfl | rfl | rfl | rfl | rfl | rfl | rfl | rfl | rfl | rfl | rfl | rfl | rfl | rfl | rfl | rfl | rfl | rfl | rfl | rfl | rfl | rfl | rfl
  · exact rowOf_at X (us := [.int 128 _]) (by k_is) (.cons 128 _ .nil) (by decide)
  · exact rowOf_at X (us := [.int 191 _]) (by k_is) (.cons 191 _ .nil) (by decide)
  · exact rowOf_at X (us := [.int 192 _]) (by k_is) (.cons 192 _ .nil) (by decide)
  · exact rowOf_at X (us := [.int 193 _]) (by k_is) (.cons 193 _ .nil) (by decide)
  · exact rowOf_at X (us := [.int 192 _, .int 128 _]) (by k_is) (.cons 192 _ (.cons 128 _ .nil)) (by decide)
  · exact rowOf_at X (us := [.int 194 _]) (by k_is) (.cons 194 _ .nil) (by decide)
  · exact rowOf_at X (us := [.int 223 _]) (by k_is) (.cons 223 _ .nil) (by decide)
  · exact rowOf_at X (us := [.int 224 _]) (by k_is) (.cons 224 _ .nil) (by decide)
  · exact rowOf_at X (us := [.int 224 _, .int 128 _]) (by k_is) (.cons 224 _ (.cons 128 _ .nil)) (by decide)
  · exact rowOf_at X (us := [.int 224 _, .int 159 _]) (by k_is) (.cons 224 _ (.cons 159 _ .nil)) (by decide)
  · exact rowOf_at X (us := [.int 224 _, .int 160 _]) (by k_is) (.cons 224 _ (.cons 160 _ .nil)) (by decide)
  · exact rowOf_at X (us := [.int 225 _, .int 128 _]) (by k_is) (.cons 225 _ (.cons 128 _ .nil)) (by decide)
  · exact rowOf_at X (us := [.int 237 _, .int 160 _]) (by k_is) (.cons 237 _ (.cons 160 _ .nil)) (by decide)
  · exact rowOf_at X (us := [.int 237 _, .int 160 _, .int 128 _]) (by k_is) (.cons 237 _ (.cons 160 _ (.cons 128 _ .nil))) (by decide)
  · exact rowOf_at X (us := [.int 237 _, .int 191 _, .int 191 _]) (by k_is) (.cons 237 _ (.cons 191 _ (.cons 191 _ .nil))) (by decide)
  · exact rowOf_at X (us := [.int 240 _]) (by k_is) (.cons 240 _ .nil) (by decide)
  · exact rowOf_at X (us := [.int 240 _, .int 128 _]) (by k_is) (.cons 240 _ (.cons 128 _ .nil)) (by decide)
  · exact rowOf_at X (us := [.int 240 _, .int 143 _]) (by k_is) (.cons 240 _ (.cons 143 _ .nil)) (by decide)
  · exact rowOf_at X (us := [.int 240 _, .int 144 _]) (by k_is) (.cons 240 _ (.cons 144 _ .nil)) (by decide)
  · exact rowOf_at X (us := [.int 240 _, .int 144 _, .int 128 _]) (by k_is) (.cons 240 _ (.cons 144 _ (.cons 128 _ .nil))) (by decide)
  · exact rowOf_at X (us := [.int 243 _, .int 191 _, .int 191 _]) (by k_is) (.cons 243 _ (.cons 191 _ (.cons 191 _ .nil))) (by decide)
  · exact rowOf_at X (us := [.int 244 _]) (by k_is) (.cons 244 _ .nil) (by decide)
  · exact rowOf_at X (us := [.int 244 _, .int 143 _, .int 191 _]) (by k_is) (.cons 244 _ (.cons 143 _ (.cons 191 _ .nil))) (by decide)
  · exact rowOf_at X (us := [.int 244 _, .int 144 _]) (by k_is) (.cons 244 _ (.cons 144 _ .nil)) (by decide)
  · exact rowOf_at X (us := [.int 244 _, .int 144 _, .int 128 _, .int 128 _]) (by k_is) (.cons 244 _ (.cons 144 _ (.cons 128 _ (.cons 128 _ .nil)))) (by decide)
  · exact rowOf_at X (us := [.int 245 _]) (by k_is) (.cons 245 _ .nil) (by decide)
  · exact rowOf_at X (us := [.int 248 _, .int 136 _, .int 128 _, .int 128 _, .int 128 _]) (by k_is) (.cons 248 _ (.cons 136 _ (.cons 128 _ (.cons 128 _ (.cons 128 _ .nil))))) (by decide)
  · exact rowOf_at X (us := [.int 254 _]) (by k_is) (.cons 254 _ .nil) (by decide)
  · exact rowOf_at X (us := [.int 255 _]) (by k_is) (.cons 255 _ .nil) (by decide)
end Mine
end

section
open PySem PySem.W PyProof.Rows
namespace Mine
set_option maxRecDepth 100000 in
theorem signs_list {w : World} {h : Heap} (X : (Mine.hd.heap_39 w.params).In h) : h.IsList 442 ([.str (Str.ofString "a") 1144, .str (Str.ofString "+") 1145, .str (Str.ofString "%") 1146, .str (Str.ofString "%4") 1147, .str (Str.ofString "%G1") 1148, .str (Str.ofString "%4G") 1149, .str (Str.ofString "é") 1150, .str (Str.ofString "€") 1151, .str (Str.ofString "😀") 1152, .str (Str.ofString "%é") 1153, .str (Str.ofString "/") 1154] : List Value).toArray := list_at X (by k_is)
theorem signs_mem : ∀ v ∈ ([.str (Str.ofString "a") 1144, .str (Str.ofString "+") 1145, .str (Str.ofString "%") 1146, .str (Str.ofString "%4") 1147, .str (Str.ofString "%G1") 1148, .str (Str.ofString "%4G") 1149, .str (Str.ofString "é") 1150, .str (Str.ofString "€") 1151, .str (Str.ofString "😀") 1152, .str (Str.ofString "%é") 1153, .str (Str.ofString "/") 1154] : List Value), ∃ x t, v = .str x t ∧ GoodT x ∧ x.length ≤ 15 := by
  intro v hv
  simp only [List.mem_cons, List.not_mem_nil, or_false] at hv
  rcases hv with rfl | rfl | rfl | rfl | rfl | rfl | rfl | rfl | rfl | rfl | rfl <;> exact ⟨_, _, rfl, good_of (by decide +kernel), by decide +kernel⟩
theorem right_ok : ∀ os ∈ rightRows, (∀ o ∈ os, 0 ≤ o ∧ o < 256) ∧ os.length ≤ 5 := by decide +kernel
theorem broken_ok : ∀ os ∈ brokenRows, (∀ o ∈ os, 0 ≤ o ∧ o < 256) ∧ os.length ≤ 5 := by decide +kernel
theorem one_ok (i : Int) : ∀ o ∈ [i.fmod 256], 0 ≤ o ∧ o < 256 := fun o ho => by
  rw [List.mem_singleton.mp ho]
  exact ⟨Int.fmod_nonneg_of_pos _ (by decide), Int.fmod_lt_of_pos _ (by decide)⟩
theorem zero_ok : ∀ o ∈ [(0 : Int)], 0 ≤ o ∧ o < 256 := by decide
theorem news_drop2 {h₀ h : Heap} {L : Addr} {x y : Addr × Obj} {r : List (Addr × Obj)} (N : News h₀ L h (x :: y :: r)) : News h₀ L h (x :: r) := fun p hp => N p (by
  rcases List.mem_cons.mp hp with rfl | hp
  · exact .head _
  · exact .tail _ (.tail _ hp))
theorem ints_any : ∀ {vs : List Value} {ns : List Int}, IntsAre vs ns → ∀ v ∈ vs, ∃ i t, v = .int i t
  | _, _, .nil, _, h => nomatch h
  | _, _, .cons n t r, v, h => by
    rcases List.mem_cons.mp h with rfl | h
    · exact ⟨_, _, rfl⟩
    · exact ints_any r v h
theorem item_int {prog : Program} {w : World} {A : Around} {E : Value → Shared → Prop} {s : Shared} {value slice : PySem.Expr} {l : Addr} {us : List Value} {ns : List Int} {i : Int} {u : Tok} {Q : Value → Shared → Prop}
    (hl : s.heap.IsList l us.toArray) (hi : IntsAre us ns) (h0 : 0 ≤ i) (hhi : i < ns.length) (hfit : ns.length < 2 ^ 62) (h : ∀ k t, Q (.int k t) s)
    (hs : subscripted slice false (.ref l) (.int i u) = operate [.ref l, .int i u] (getItem (.ref l) (.int i u)) := by with_unfolding_all rfl) :
    wpAny (model prog w) A (subscriptTail value slice (.ref l) (.int i u)) Q E s := by
  have hlen := hi.length
  refine item_any hl h0 (by omega) (by omega) (fun v hv => ?_) hs
  obtain ⟨k, t, rfl⟩ := ints_any hi v hv
  exact h k t

local macro_rules | `(tactic| k_all) => `(tactic| assumption)
local macro_rules | `(tactic| walk_at "call ref") => `(tactic| (k_here; (with_reducible show wpAny _ _ (call (Value.ref 449) _ _) _ _ _); k_dflt (refine' draw_spec ?k1 ?k2 ?k3 ?k4 ?k5 ?k6 ?k7 ?k8 ?k9 ?k10 ?k11 ?k12 ?k13 ?k14 ?k15 ?k16 ?k17 ?k18 ?_; (case k1 => k_asm); (case k2 => k_asm); (case k3 => k_asm); (case k4 => first | k_asm | exact news_swap (by k_asm)); (case k5 => k_asm); (case k6 => first | rfl | assumption); (case k7 => k_asm); (case k8 => k_asm); (case k9 => assumption); (case k10 => k_all); (case k11 => omega); (case k12 => omega); (case k13 => omega); (case k14 => omega); (case k15 => omega); (case k16 => omega); (case k17 => ktr_room); (case k18 => ktr_units); k_whole); intro t' h' tk' r' z' tp' tz' n' F' N' hz1' hz2' hr1' hr2'))
local macro_rules | `(tactic| walk_at "call ref") => `(tactic| (k_here; (with_reducible show wpAny _ _ (call (Value.ref 456) [_, Value.ref 411] _) _ _ _); k_dflt (refine' pick_spec ?k1 ?k2 ?k3 ?k4 ?k5 ?k6 ?k7 ?k8 ?k9 ?k10 ?k11 ?k12 ?k13 ?k14 ?k15 ?k16 ?k17 ?k18 ?k19 ?_; (case k1 => k_asm); (case k2 => k_asm); (case k3 => k_asm); (case k4 => k_asm); (case k5 => k_asm); (case k6 => first | rfl | assumption); (case k7 => k_asm); (case k8 => k_asm); (case k9 => assumption); (case k10 => k_all); (case k11 => omega); (case k12 => omega); (case k13 => omega); (case k14 => omega); (case k15 => exact right_list (by k_asm)); (case k16 => decide); (case k17 => decide); (case k18 => ktr_room); (case k19 => ktr_units); k_whole); intro v' h' tk' z' tp' tz' n' F' N' hz1' hz2' hv'; (obtain ⟨l', us', os', hv2, hrw', his', hmr'⟩ := right_mem (by k_asm) _ hv'); subst hv2; (obtain ⟨hoo', hol'⟩ := right_ok _ hmr')))
local macro_rules | `(tactic| walk_at "call ref") => `(tactic| (k_here; (with_reducible show wpAny _ _ (call (Value.ref 456) [_, Value.ref 441] _) _ _ _); k_dflt (refine' pick_spec ?k1 ?k2 ?k3 ?k4 ?k5 ?k6 ?k7 ?k8 ?k9 ?k10 ?k11 ?k12 ?k13 ?k14 ?k15 ?k16 ?k17 ?k18 ?k19 ?_; (case k1 => k_asm); (case k2 => k_asm); (case k3 => k_asm); (case k4 => k_asm); (case k5 => k_asm); (case k6 => first | rfl | assumption); (case k7 => k_asm); (case k8 => k_asm); (case k9 => assumption); (case k10 => k_all); (case k11 => omega); (case k12 => omega); (case k13 => omega); (case k14 => omega); (case k15 => exact broken_list (by k_asm)); (case k16 => decide); (case k17 => decide); (case k18 => ktr_room); (case k19 => ktr_units); k_whole); intro v' h' tk' z' tp' tz' n' F' N' hz1' hz2' hv'; (obtain ⟨l', us', os', hv2, hrw', his', hmr'⟩ := broken_mem (by k_asm) _ hv'); subst hv2; (obtain ⟨hoo', hol'⟩ := broken_ok _ hmr')))
local macro_rules | `(tactic| walk_at "call ref") => `(tactic| (k_here; (with_reducible show wpAny _ _ (call (Value.ref 456) [_, Value.ref 442] _) _ _ _); k_dflt (refine' pick_spec ?k1 ?k2 ?k3 ?k4 ?k5 ?k6 ?k7 ?k8 ?k9 ?k10 ?k11 ?k12 ?k13 ?k14 ?k15 ?k16 ?k17 ?k18 ?k19 ?_; (case k1 => k_asm); (case k2 => k_asm); (case k3 => k_asm); (case k4 => k_asm); (case k5 => k_asm); (case k6 => first | rfl | assumption); (case k7 => k_asm); (case k8 => k_asm); (case k9 => assumption); (case k10 => k_all); (case k11 => omega); (case k12 => omega); (case k13 => omega); (case k14 => omega); (case k15 => exact signs_list (by k_asm)); (case k16 => decide); (case k17 => decide); (case k18 => ktr_room); (case k19 => ktr_units); k_whole); intro v' h' tk' z' tp' tz' n' F' N' hz1' hz2' hv'; (obtain ⟨x', t', hv2, hgx', hlx'⟩ := signs_mem _ hv'); subst hv2))
local macro_rules | `(tactic| walk_at "call ref") => `(tactic| (k_here; (with_reducible show wpAny _ _ (call (Value.ref 463) _ _) _ _ _); k_dflt (first
  | (refine' written_spec ?k1 ?k2 ?k3 ?k4 ?k5 ?k6 ?k7 ?k8 ?k9 ?k10 ?k11 ?k12 ?k13 ?k14 ?k15 ?k16 ?k17 ?k18 ?k19 ?k20 ?_; (case k15 => assumption); (case k16 => assumption); (case k1 => k_asm); (case k2 => k_asm); (case k3 => k_asm); (case k4 => k_asm); (case k5 => k_asm); (case k6 => first | rfl | assumption); (case k7 => k_asm); (case k8 => k_asm); (case k9 => assumption); (case k10 => k_all); (case k11 => omega); (case k12 => omega); (case k13 => omega); (case k14 => omega); (case k17 => assumption); (case k18 => assumption); (case k19 => ktr_room); (case k20 => ktr_units); k_whole)
  | (refine' written_spec2 ?k1 ?k2 ?k3 ?k4 ?k5 ?k6 ?k7 ?k8 ?k9 ?k10 ?k15 ?k11 ?k12 ?k13 ?k14 ?k16 ?k17 ?k18 ?k19 ?k20 ?_; (case k4 => first | k_asm | exact news_swap (by k_asm)); (case k1 => k_asm); (case k2 => k_asm); (case k3 => k_asm); (case k5 => k_asm); (case k6 => first | rfl | assumption); (case k7 => k_asm); (case k8 => k_asm); (case k9 => assumption); (case k10 => k_all); (case k11 => omega); (case k12 => omega); (case k13 => omega); (case k14 => omega); (case k15 => k_ne); (case k16 => exact .cons _ _ .nil); (case k17 => first | exact one_ok _ | exact zero_ok); (case k18 => simp); (case k19 => ktr_room); (case k20 => ktr_units); k_whole)); intro x' t' h' tk' z' tp' tz' n' F' N' hz1' hz2' hE'; (have hlE' := Esc.len hE'); (have hgE' := Esc.good hE')))
local macro_rules | `(tactic| walk_at "subscriptTail Name Call ref int") => `(tactic| (k_here; k_dflt (refine' item_int ?k1 ?k6 ?k2 ?k3 ?k4 ?_ ?k5; (case k1 => is_list); (case k6 => assumption); (case k2 => omega); (case k3 => omega); (case k4 => omega); (case k5 => with_unfolding_all rfl); k_whole); intro v' hv'))
section
variable {prog : Program} {w : World} {pp : Program} {loose : List Str} {mean : ExcName → Option Value} {mg mb : Str → Option Value} {dp un : Nat} {gd : Option (List Code)} {cn : Str} {cs : Scope} {a : Addr} {ccd : Value} {cl : List (Str × Addr)} {outer : List Env} {A₀ : Around} {base h₀ : Heap} {L : Addr} {m : Str → Option Value} {s : Shared} {Q E : Value → Shared → Prop}
    {rest : List (Addr × Obj)} {b sc l : Addr} {vs us : List Value} {ns os : List Int} {p z size : Int} {tp tz st : Tok} {n k : Nat}
set_option maxRecDepth 100000 in
set_option maxHeartbeats 8000000 in
theorem piece_spec 
    (B : Below A₀ base outer h₀) (F : Fr h₀ L s.heap m) (X : (Mine.hd.heap_39 w.params).In h₀) (N : News h₀ L s.heap ((b, boxO sc p tp z tz n) :: rest)) (T : Top pp loose mean mg mb h₀) (hk : cs.kind = .function)
    (hl : base.IsList sc vs.toArray) (hi : IntsAre vs ns) (hfit : ns.length < 2 ^ 62) (hoff : ∀ q ∈ rest, q.1 ≠ b)
    (hp : 0 ≤ p) (hp2 : p < 800000) (hz : 0 ≤ z) (hz2 : z < 2147483647) (hnl : ns.length < 1000000)
    (hd : dp + 4 < recursionLimit) (hu : un + 32 < cLine)
    (hret : ∀ (x : Str) (t : Tok) (h' : Heap) (tk' : Nat) (p' z' : Int) (tp' tz' : Tok) (n' : Nat), Fr h₀ L h' m → News h₀ L h' ((b, boxO sc p' tp' z' tz' n') :: rest) → p ≤ p' → p' ≤ p + 10 → 0 ≤ z' → z' < 2147483647 → GoodT x → x.length ≤ 15 →
      Q (.str x t) { s with heap := h', toks := tk' }) :
    wpAny (model prog w) (ktrTop dp un gd cn cs L a ccd cl outer) (call (.ref 470) [.ref b]) Q E s := by
  refine wpAny_call ?_
  k_dflt cell_enter
  k_steps
  all_goals exact hret _ _ _ _ _ _ _ _ _ (by assumption) (by first | assumption | exact news_drop2 (by assumption)) (by first | omega | (simp only [List.length_cons, List.length_nil] at *; omega)) (by first | omega | (simp only [List.length_cons, List.length_nil] at *; omega)) (by assumption) (by assumption) (by assumption) (by first | omega | (simp only [List.length_cons, List.length_nil] at *; omega))
end
end Mine
end

section
open PySem PySem.W PyProof.Rows
namespace Mine
section
variable {prog : Program} {w : World} {pp : Program} {loose : List Str} {mean : ExcName → Option Value} {mg mb : Str → Option Value} {dp un : Nat} {gd : Option (List Code)} {cn : Str} {cs : Scope} {a : Addr} {ccd : Value} {cl : List (Str × Addr)} {outer : List Env} {A₀ : Around} {base h₀ : Heap} {L : Addr} {m : Str → Option Value} {s : Shared} {Q E : Value → Shared → Prop}
    {news : List (Addr × Obj)} {x : Str} {t ti : Tok} {i : Int}
set_option maxRecDepth 100000 in
set_option maxHeartbeats 8000000 in
theorem figure_spec 
    (B : Below A₀ base outer h₀) (F : Fr h₀ L s.heap m) (X : (Mine.hd.heap_39 w.params).In h₀) (N : News h₀ L s.heap news) (T : Top pp loose mean mg mb h₀) (hk : cs.kind = .function)
    (hx : x.length ≤ 100000) (hi : 0 ≤ i) (hi2 : i < 1000000)
    (hd : dp + 1 < recursionLimit) (hu : un + 8 < cLine)
    (hret : ∀ (k : Int) (tk : Tok) (h' : Heap) (tk' : Nat), Fr h₀ L h' m → News h₀ L h' news → k = figF x.cps.toList i.toNat → 
      Q (.int k tk) { s with heap := h', toks := tk' }) :
    wpAny (model prog w) (ktrTop dp un gd cn cs L a ccd cl outer) (call (.ref 477) [.str x t, .int i ti]) Q E s := by
  refine wpAny_call ?_
  k_dflt cell_enter
  k_steps
  · exact hret _ _ _ _ (by assumption) (by assumption) (fig_out hi (by assumption))
  · exact hret _ _ _ _ (by assumption) (by assumption) (fig_no hi (by assumption) (by assumption))
  · exact hret _ _ _ _ (by assumption) (by assumption) (fig_yes hi (by assumption) (by assumption))
end
end Mine
end

section
open PySem PySem.W PyProof.Rows
namespace Mine
section
variable {prog : Program} {w : World} {pp : Program} {loose : List Str} {mean : ExcName → Option Value} {mg mb : Str → Option Value} {dp un : Nat} {gd : Option (List Code)} {cn : Str} {cs : Scope} {a : Addr} {ccd : Value} {cl : List (Str × Addr)} {outer : List Env} {A₀ : Around} {base h₀ : Heap} {L : Addr} {m : Str → Option Value} {s : Shared} {Q E : Value → Shared → Prop}
    {news : List (Addr × Obj)} {x : Str} {t ti : Tok} {i : Int}
set_option maxRecDepth 100000 in
set_option maxHeartbeats 8000000 in
theorem octets_spec 
    (B : Below A₀ base outer h₀) (F : Fr h₀ L s.heap m) (X : (Mine.hd.heap_39 w.params).In h₀) (N : News h₀ L s.heap news) (T : Top pp loose mean mg mb h₀) (hk : cs.kind = .function)
    (hi : 0 ≤ i) (hi2 : i < 0x110000)
    (hd : dp + 1 < recursionLimit) (hu : un + 8 < cLine)
    (hret : ∀ (l : Addr) (us : List Value) (h' : Heap) (tk' n : Nat), Fr h₀ L h' m → News h₀ L h' ((l, listOf us.toArray n) :: news) → (∀ q ∈ news, q.1 < l) → IntsAre us (zs (u8 i.toNat)) → 
      Q (.ref l) { s with heap := h', toks := tk' }) :
    wpAny (model prog w) (ktrTop dp un gd cn cs L a ccd cl outer) (call (.ref 484) [.int i ti]) Q E s := by
  refine wpAny_call ?_
  k_dflt cell_enter
  k_steps
  · exact hret _ _ _ _ _ (by assumption) (by assumption) (by assumption) (oct1 hi (by assumption))
  · exact hret _ _ _ _ _ (by assumption) (by assumption) (by assumption) (oct2 hi (by assumption) (by assumption))
  · exact hret _ _ _ _ _ (by assumption) (by assumption) (by assumption) (oct3 hi (by assumption) (by assumption) (by assumption))
  · exact hret _ _ _ _ _ (by assumption) (by assumption) (by assumption) (oct4 hi (by assumption) (by assumption) (by assumption))
end
end Mine
end

section
open PySem PySem.W PyProof.Rows
namespace Mine
structure RS where
  l : Addr
  us : List Value
  n : Nat
  acc : List Nat
  i : Nat
  ti : Tok
theorem lt_drop2 {a b : Addr × Obj} {r : List (Addr × Obj)} {d : Addr} (h : ∀ p ∈ a :: b :: r, p.1 < d) : ∀ p ∈ r, p.1 < d := fun p hp => h p (.tail _ (.tail _ hp))
local macro_rules | `(tactic| k_all) => `(tactic| assumption)
local macro_rules | `(tactic| walk_at "exec While Compare cons nil") => `(tactic| k_extra "row while")
local macro_rules | `(tactic| walk_at "call ref") => `(tactic| (k_here; (with_reducible show wpAny _ _ (call (Value.ref 477) _ _) _ _ _); k_dflt (refine' figure_spec ?k1 ?k2 ?k3 ?k4 ?k5 ?k6 ?k7 ?k8 ?k9 ?k10 ?k11 ?_; (case k1 => k_asm); (case k2 => k_asm); (case k3 => k_asm); (case k4 => k_asm); (case k5 => k_asm); (case k6 => first | rfl | assumption); (case k7 => omega); (case k8 => omega); (case k9 => omega); (case k10 => ktr_room); (case k11 => ktr_units); k_whole); intro k' t' h' tk' F' N' hk'))
local macro_rules | `(tactic| walk_at "call ref") => `(tactic| (k_here; (with_reducible show wpAny _ _ (call (Value.ref 484) _ _) _ _ _); k_dflt (refine' octets_spec ?k1 ?k2 ?k3 ?k4 ?k5 ?k6 ?k8 ?k9 ?k10 ?k11 ?_; (case k1 => k_asm); (case k2 => k_asm); (case k3 => k_asm); (case k4 => k_asm); (case k5 => k_asm); (case k6 => first | rfl | assumption); (case k8 => omega); (case k9 => omega); (case k10 => ktr_room); (case k11 => ktr_units); k_whole); intro l' us' h' tk' n' F' N' hlt' his'))
local macro_rules | `(tactic| walk_at "binaryOp Add ref ref") => `(tactic| (k_here; (with_reducible show wpAny _ _ (binaryOp _ (Value.ref _) (Value.ref _)) _ _ _); k_dflt (refine' kmk_add_ints ?F ?N ?a ?b ?i ?j ?_ ?z; (case F => k_asm); (case N => k_asm); (case a => kmk_list); (case b => kmk_list); (case i => assumption); (case j => assumption); (case z => exact add_sz (by omega))); intro D' ws' h' F' N' l1 hI'))
section
variable {prog : Program} {w : World} {pp : Program} {loose : List Str} {mean : ExcName → Option Value} {mg mb : Str → Option Value} {dp un : Nat} {gd : Option (List Code)} {cn : Str} {cs : Scope} {a : Addr} {ccd : Value} {cl : List (Str × Addr)} {outer : List Env} {A₀ : Around} {base h₀ : Heap} {L : Addr} {m : Str → Option Value} {s : Shared} {Q E : Value → Shared → Prop}
    {news : List (Addr × Obj)} {x : Str} {t ti : Tok} {i : Int}
set_option maxRecDepth 100000 in
set_option maxHeartbeats 8000000 in
theorem row_spec 
    (B : Below A₀ base outer h₀) (F : Fr h₀ L s.heap m) (X : (Mine.hd.heap_39 w.params).In h₀) (N : News h₀ L s.heap news) (T : Top pp loose mean mg mb h₀) (hk : cs.kind = .function)
    (hx : x.length ≤ 100000) (hg : GoodT x)
    (hd : dp + 2 < recursionLimit) (hu : un + 16 < cLine)
    (hret : ∀ (l : Addr) (us : List Value) (h' : Heap) (tk' n : Nat), Fr h₀ L h' m → News h₀ L h' ((l, listOf us.toArray n) :: news) → (∀ q ∈ news, q.1 < l) → IntsAre us (zs (rowL x.cps.toList)) → 
      Q (.ref l) { s with heap := h', toks := tk' }) :
    wpAny (model prog w) (ktrTop dp un gd cn cs L a ccd cl outer) (call (.ref 491) [.str x t]) Q E s := by
  refine wpAny_call ?_
  k_dflt cell_enter
  (k_with "row while" => (
    rename Fr _ _ _ _ => lF
    rename News _ _ _ _ => lN
    with_unfolding_all refine' ksw_while (σ := RS) (fun c => (c.l, listOf c.us.toArray c.n) :: news) (fun c => [(Str.ofString "row", .ref c.l), (Str.ofString "place", .int c.i c.ti)]) (fun c => IntsAre c.us (zs c.acc) ∧ ∀ q ∈ news, q.1 < c.l) [Str.ofString "high", Str.ofString "low"] (fun c => c.acc ++ rowL (x.cps.toList.drop c.i) = rowL x.cps.toList ∧ c.i ≤ x.length ∧ c.acc.length ≤ 4 * c.i) (fun c => x.length - c.i) ⟨_, [], _, [], 0, _⟩ lF lN ?kf ?kk ?kp ?kturn (by passes_own)
    case kf => exact ⟨ints_nil, by assumption⟩
    case kk => kst_all
    case kp => exact ⟨rfl, Nat.zero_le _, Nat.zero_le _⟩
    clear lF lN
    intro c u h2 tk2 hf hP F2 N2
    obtain ⟨l, us, n, acc, i, ti⟩ := c
    obtain ⟨hus, hll⟩ := hf
    obtain ⟨hE, hil, hal⟩ := hP
    dsimp only [kstB] at hE hil hal hus hll F2 N2
    have hok := item_ok hg (i := (i : Int)) (by omega)
    try k_fold))
  k_steps
  · rename Fr _ _ _ _ => F9
    rename News _ _ _ _ => N9
    simp only [List.push_toArray] at N9
    exact ksw_end (⟨l, us ++ [_], _, acc ++ [_], i + 3, _⟩ : RS) F9 N9 (by kst_in) ⟨ints_snoc hus (by omega), hll⟩ (by kst_all) (by ksw_same) (rs_yes hE (by assumption) (by assumption) (by assumption) (by assumption) (by assumption) (by assumption) hal) (by dsimp only; omega)
  · rename Fr _ _ _ _ => F9
    rename News _ _ _ _ => N9
    exact ksw_end (⟨_, _, _, acc ++ u8 _, i + 1, _⟩ : RS) F9 N9 (by kst_in) ⟨ints_cat (by assumption), lt_drop2 (by assumption)⟩ (by kst_all) (by ksw_same) (rs_no hE (by assumption) (by assumption) (by assumption) (.inr (.inr (by assumption))) hal) (by dsimp only; omega)
  · rename Fr _ _ _ _ => F9
    rename News _ _ _ _ => N9
    exact ksw_end (⟨_, _, _, acc ++ u8 _, i + 1, _⟩ : RS) F9 N9 (by kst_in) ⟨ints_cat (by assumption), lt_drop2 (by assumption)⟩ (by kst_all) (by ksw_same) (rs_no hE (by assumption) (by assumption) (by assumption) (.inr (.inl (by assumption))) hal) (by dsimp only; omega)
  · rename Fr _ _ _ _ => F9
    rename News _ _ _ _ => N9
    exact ksw_end (⟨_, _, _, acc ++ u8 _, i + 1, _⟩ : RS) F9 N9 (by kst_in) ⟨ints_cat (by assumption), lt_drop2 (by assumption)⟩ (by kst_all) (by ksw_same) (rs_no hE (by assumption) (by assumption) (by assumption) (.inl (by assumption)) hal) (by dsimp only; omega)
  · exact hret _ _ _ _ _ (by assumption) (by assumption) hll (by rw [← rs_done hE (by assumption)]; exact hus)
end
end Mine
end

section
open PySem PySem.W PyProof.Rows
namespace Mine
section
variable {prog : Program} {w : World} {pp : Program} {loose : List Str} {mean : ExcName → Option Value} {mg mb : Str → Option Value} {dp un : Nat} {gd : Option (List Code)} {cn : Str} {cs : Scope} {a : Addr} {ccd : Value} {cl : List (Str × Addr)} {outer : List Env} {A₀ : Around} {base h₀ : Heap} {L : Addr} {m : Str → Option Value} {s : Shared} {Q E : Value → Shared → Prop}
    {news : List (Addr × Obj)} {x : Str} {t ti : Tok} {i : Int}
set_option maxRecDepth 100000 in
set_option maxHeartbeats 8000000 in
theorem form_spec 
    (B : Below A₀ base outer h₀) (F : Fr h₀ L s.heap m) (X : (Mine.hd.heap_39 w.params).In h₀) (N : News h₀ L s.heap news) (T : Top pp loose mean mg mb h₀) (hk : cs.kind = .function)
    (hi : 0 ≤ i) (hi2 : i < 256)
    (hd : dp + 1 < recursionLimit) (hu : un + 8 < cLine)
    (hnone : ∀ (h' : Heap) (tk' : Nat), Fr h₀ L h' m → News h₀ L h' news → formN i.toNat = none → 
      Q .none { s with heap := h', toks := tk' })
    (hsome : ∀ (l : Addr) (cnt lo hi code : Int) (t1 t2 t3 t4 : Tok) (h' : Heap) (tk' n : Nat), Fr h₀ L h' m → News h₀ L h' ((l, listOf #[.int cnt t1, .int lo t2, .int hi t3, .int code t4] n) :: news) → (∀ q ∈ news, q.1 < l) → FormI i cnt lo hi code → 
      Q (.ref l) { s with heap := h', toks := tk' }) :
    wpAny (model prog w) (ktrTop dp un gd cn cs L a ccd cl outer) (call (.ref 498) [.int i ti]) Q E s := by
  refine wpAny_call ?_
  k_dflt cell_enter
  k_steps
  all_goals first
    | exact hsome _ _ _ _ _ _ _ _ _ _ _ _ (by assumption) (by assumption) (by assumption) (form1 (by omega) (by omega))
    | exact hsome _ _ _ _ _ _ _ _ _ _ _ _ (by assumption) (by assumption) (by assumption) (form2 (by omega) (by omega) (by split <;> omega) (by split <;> omega))
    | exact hsome _ _ _ _ _ _ _ _ _ _ _ _ (by assumption) (by assumption) (by assumption) (form3 (by omega) (by omega) (by split <;> omega) (by split <;> omega))
    | exact hnone _ _ (by assumption) (by assumption) (form0 (by omega))
end
end Mine
end

section
open PySem PySem.W PyProof.Rows
namespace Mine
structure SS where
  out : Str
  to : Tok
  i : Nat
  ti : Tok
structure IS where
  code : Nat
  count : Nat
  j : Nat
  least : Nat
  most : Nat
  t1 : Tok
  t2 : Tok
  t3 : Tok
  t4 : Tok
  t5 : Tok
section
local macro_rules | `(tactic| k_all) => `(tactic| assumption)
local macro_rules | `(tactic| walk_at "exec While Compare cons nil") => `(tactic| k_extra "signs while")
local macro_rules | `(tactic| walk_at "exec While BoolOp cons nil") => `(tactic| k_extra "inner while")
local macro_rules | `(tactic| walk_at "call ref") => `(tactic| ((with_reducible show wpAny _ _ (call (Value.ref 498) _ _) _ _ _); k_dflt (k_extra "form call")))
local macro_rules | `(tactic| walk_at "subscriptTail Name Name ref int") => `(tactic| (k_here; k_dflt (refine' item_row ?k1 ?k2 ?k3 ?k4 ?k5 ?k6 ?_ ?k7; (case k2 => assumption); (case k1 => is_list); (case k3 => assumption); (case k4 => omega); (case k5 => omega); (case k6 => omega); (case k7 => with_unfolding_all rfl); k_whole); intro t' ho'))
local macro_rules | `(tactic| walk_at "subscriptTail Name Constant ref int") => `(tactic| (k_here; k_dflt (refine' item_lit ?k1 ?k2 ?k3 ?k4 ?k5 ?_ ?k6; (case k1 => k_asm); (case k2 => k_mem); (case k3 => decide); (case k4 => decide); (case k5 => rfl); (case k6 => with_unfolding_all rfl); k_whole)))
variable {prog : Program} {w : World} {pp : Program} {loose : List Str} {mean : ExcName → Option Value} {mg mb : Str → Option Value} {dp un : Nat} {gd : Option (List Code)} {cn : Str} {cs : Scope} {a : Addr} {ccd : Value} {cl : List (Str × Addr)} {outer : List Env} {A₀ : Around} {base h₀ : Heap} {L : Addr} {m : Str → Option Value} {s : Shared} {Q E : Value → Shared → Prop}
    {news : List (Addr × Obj)} {l : Addr} {us : List Value} {row : List Nat} {n : Nat}
set_option maxRecDepth 100000 in
set_option maxHeartbeats 8000000 in
theorem signs_spec 
    (B : Below A₀ base outer h₀) (F : Fr h₀ L s.heap m) (X : (Mine.hd.heap_39 w.params).In h₀) (N : News h₀ L s.heap ((l, listOf us.toArray n) :: news)) (T : Top pp loose mean mg mb h₀) (hk : cs.kind = .function)
    (hus : IntsAre us (zs row)) (hr : ∀ o ∈ row, o < 256) (hlen : row.length ≤ 400000)
    (hd : dp + 2 < recursionLimit) (hu : un + 16 < cLine)
    (hret : ∀ (x : Str) (t : Tok) (h' : Heap) (tk' : Nat), Fr h₀ L h' m → News h₀ L h' ((l, listOf us.toArray n) :: news) → x.cps.toList = decL row → 
      Q (.str x t) { s with heap := h', toks := tk' }) :
    wpAny (model prog w) (ktrTop dp un gd cn cs L a ccd cl outer) (call (.ref 505) [.ref l]) Q E s := by
  refine wpAny_call ?_
  k_dflt cell_enter
  have hzl : (zs row).length = row.length := by simp only [zs, List.length_map]
  (k_with "form call" => (
    refine' form_spec ?k1 ?k2 ?k3 ?k4 ?k5 ?k6 ?k8 ?k9 ?k10 ?k11 ?n1 ?n2
    case k1 => k_asm
    case k2 => k_asm
    case k3 => k_asm
    case k4 => k_asm
    case k5 => k_asm
    case k6 => first | rfl | assumption
    case k8 => omega
    case k9 => omega
    case k10 => ktr_room
    case k11 => ktr_units
    case' n1 => intro h3 tk3 F3 N3 hf
    case' n2 =>
      intro lf cnt lo hi code0 t1 t2 t3 t4 h3 tk3 n3 F3 N3 hlf hF
      obtain ⟨cnt, lo, hi, code0, rfl, rfl, rfl, rfl, hf⟩ := hF))
  (k_with "signs while" => (
    rename Fr _ _ _ _ => lF
    rename News _ _ _ _ => lN
    with_unfolding_all refine' ksw_while (σ := SS) (fun c => (l, listOf us.toArray n) :: news) (fun c => [(Str.ofString "out", .str c.out c.to), (Str.ofString "place", .int c.i c.ti)]) (fun _ => True) [Str.ofString "lead", Str.ofString "form", Str.ofString "least", Str.ofString "most", Str.ofString "code", Str.ofString "count"] (fun c => SgP row c.out c.i) (fun c => row.length - c.i) ⟨Str.ofString "", _, 0, _⟩ lF lN True.intro ?kk ?kp ?kturn (by passes_own)
    case kk => kst_all
    case kp => exact ⟨rfl, Nat.zero_le _, Nat.zero_le _⟩
    clear lF lN
    intro c u h2 tk2 hf hP F2 N2
    obtain ⟨out, to, i, ti⟩ := c
    obtain ⟨hE, hil, hal⟩ := hP
    dsimp only [kstB] at hE hil hal F2 N2
    try k_fold))
  (k_with "inner while" => (
    rename Fr _ _ _ _ => lF
    rename News _ _ _ _ => lN
    with_unfolding_all refine' kx_while (σ := IS) (fun c => (lf, _) :: (l, listOf us.toArray n) :: news) (fun c => [(Str.ofString "code", .int c.code c.t1), (Str.ofString "count", .int c.count c.t2), (Str.ofString "place", .int c.j c.t3), (Str.ofString "least", .int c.least c.t4), (Str.ofString "most", .int c.most c.t5)]) (fun _ => True) [] (fun c => Inner row cnt lo hi code0 (i + 1) c.code c.count c.j c.least c.most) (fun c => cnt - c.count) (fun c => cnt ≤ c.count ∨ row.length ≤ c.j ∨ ¬ c.least ≤ row.getD c.j 0 ∨ ¬ row.getD c.j 0 ≤ c.most) ⟨code0, 0, i + 1, lo, hi, _, _, _, _, _⟩ lF lN True.intro ?ik ?ip ?iturn ?idone (by passes_own)
    case ik => kst_all
    case ip => exact inner_start (by omega)
    clear lF lN
    case' iturn =>
      intro c u h4 tk4 _ hP F4 N4
      obtain ⟨code, count, j, least, most, s1, s2, s3, s4, s5⟩ := c
      dsimp only [kstB] at hP F4 N4
      obtain ⟨hcc, hjj, hjl⟩ := hP.facts
      try k_fold
    case' idone =>
      intro c u h4 tk4 _ hP hX F4 N4
      obtain ⟨code, count, j, least, most, s1, s2, s3, s4, s5⟩ := c
      dsimp only [kstB] at hP hX F4 N4
      obtain ⟨hcc, hjj, hjl⟩ := hP.facts
      have hfin : count = cnt → code < 1114112 := fun e => by (have := hP.valid hf e; unfold Okc at this; omega)
      try k_fold))
  k_steps
  · rename Fr _ _ _ _ => F9
    rename News _ _ _ _ => N9
    exact ksw_end (⟨_, _, i + 1, _⟩ : SS) F9 N9 (by kst_in) True.intro (by kst_all) (by ksw_same) (sg_ascii (by assumption) (by assumption) hE hal) (by dsimp only; omega)
  · rename Fr _ _ _ _ => F9
    rename News _ _ _ _ => N9
    exact ksw_end (⟨_, _, j, _⟩ : SS) F9 N9 (by kst_in) True.intro (by kst_all) (by ksw_same) (sg_whole (by assumption) (by assumption) hf hE hal hP (by assumption)) (by dsimp only; omega)
  · rename Fr _ _ _ _ => F9
    rename News _ _ _ _ => N9
    exact ksw_end (⟨_, _, j, _⟩ : SS) F9 N9 (by kst_in) True.intro (by kst_all) (by ksw_same) (sg_broken (by assumption) (by assumption) hf hE hal hP hX (by assumption)) (by dsimp only; omega)
  · rename Fr _ _ _ _ => F9
    rename News _ _ _ _ => N9
    rw [code_step] at F9
    exact ksw_end (⟨code * 64 + row.getD j 0 % 64, count + 1, j + 1, 128, 191, _, _, _, _, _⟩ : IS) F9 N9 (by kst_in) True.intro (by kst_all) (by ksw_same) (sg_step hP (by assumption) (by assumption) (by assumption) (by assumption)) (by dsimp only; omega)
  · exact kx_exit (u := u) (by dsimp only; simp only [Int.toNat_natCast] at *; omega) F4 N4
  · exact kx_exit (u := u) (by dsimp only; simp only [Int.toNat_natCast] at *; omega) F4 N4
  · exact kx_exit (u := u) (by dsimp only; simp only [Int.toNat_natCast] at *; omega) F4 N4
  · exact kx_exit (u := u) (by dsimp only; simp only [Int.toNat_natCast] at *; omega) F4 N4
  · rename Fr _ _ _ _ => F9
    rename News _ _ _ _ => N9
    exact ksw_end (⟨_, _, i + 1, _⟩ : SS) F9 N9 (by kst_in) True.intro (by kst_all) (by ksw_same) (sg_ascii (by assumption) (by assumption) hE hal) (by dsimp only; omega)
  · rename Fr _ _ _ _ => F9
    rename News _ _ _ _ => N9
    exact ksw_end (⟨_, _, i + 1, _⟩ : SS) F9 N9 (by kst_in) True.intro (by kst_all) (by ksw_same) (sg_none (by assumption) (by assumption) hf hE hal) (by dsimp only; omega)
  · exact hret _ _ _ _ (by assumption) (by assumption) (sg_done (by assumption) hE)
end
end Mine
end

section
open PySem PySem.W PyProof.Rows
namespace Mine
theorem zs_bound {x : Str} (hx : x.length ≤ 100000) : (rowL x.cps.toList).length ≤ 400000 := by
  have h1 := rowL_len _ x.cps.toList (Nat.le_refl _)
  have h2 : x.cps.toList.length = x.cps.size := Array.length_toList
  have h3 : x.cps.size ≤ 100000 := hx
  omega
theorem news_left {h₀ h : Heap} {L : Addr} {r q : List (Addr × Obj)} (N : News h₀ L h (r ++ q)) : News h₀ L h r := fun p hp => N p (List.mem_append_left _ hp)
theorem news_tail {h₀ h : Heap} {L : Addr} {x : Addr × Obj} {r : List (Addr × Obj)} (N : News h₀ L h (x :: r)) : News h₀ L h r := fun p hp => N p (.tail _ hp)
section
local macro_rules | `(tactic| walk_at "call ref") => `(tactic| (k_here; (with_reducible show wpAny _ _ (call (Value.ref 491) _ _) _ _ _); k_dflt (refine' row_spec ?k1 ?k2 ?k3 ?k4 ?k5 ?k6 ?k7 ?k8 ?k9 ?k10 ?_; (case k1 => k_asm); (case k2 => k_asm); (case k3 => k_asm); (case k4 => k_asm); (case k5 => k_asm); (case k6 => first | rfl | assumption); (case k7 => omega); (case k8 => assumption); (case k9 => ktr_room); (case k10 => ktr_units); k_whole); intro l' us' h' tk' n' F' N' hl' hI'))
local macro_rules | `(tactic| walk_at "call ref") => `(tactic| (k_here; (with_reducible show wpAny _ _ (call (Value.ref 505) _ _) _ _ _); k_dflt (refine' signs_spec ?k1 ?k2 ?k3 ?k4 ?k5 ?k6 ?k7 ?k8 ?k9 ?k10 ?k11 ?_; (case k1 => k_asm); (case k2 => k_asm); (case k3 => k_asm); (case k4 => k_asm); (case k5 => k_asm); (case k6 => first | rfl | assumption); (case k7 => assumption); (case k8 => exact rowL_lt _ _ (Nat.le_refl _) (by assumption)); (case k9 => exact zs_bound (by assumption)); (case k10 => ktr_room); (case k11 => ktr_units); k_whole); intro x' t' h' tk' F' N' hx'))
variable {prog : Program} {w : World} {pp : Program} {loose : List Str} {mean : ExcName → Option Value} {mg mb : Str → Option Value} {dp un : Nat} {gd : Option (List Code)} {cn : Str} {cs : Scope} {a : Addr} {ccd : Value} {cl : List (Str × Addr)} {outer : List Env} {A₀ : Around} {base h₀ : Heap} {L : Addr} {m : Str → Option Value} {s : Shared} {Q E : Value → Shared → Prop}
    {news : List (Addr × Obj)} {x : Str} {t : Tok}
set_option maxRecDepth 100000 in
set_option maxHeartbeats 8000000 in
theorem read_spec 
    (B : Below A₀ base outer h₀) (F : Fr h₀ L s.heap m) (X : (Mine.hd.heap_39 w.params).In h₀) (N : News h₀ L s.heap news) (T : Top pp loose mean mg mb h₀) (hk : cs.kind = .function)
    (hx : x.length ≤ 100000) (hg : GoodT x)
    (hd : dp + 3 < recursionLimit) (hu : un + 24 < cLine)
    (hret : ∀ (y : Str) (t : Tok) (h' : Heap) (tk' : Nat), Fr h₀ L h' m → News h₀ L h' news → y.cps.toList = rd x.cps.toList → 
      Q (.str y t) { s with heap := h', toks := tk' }) :
    wpAny (model prog w) (ktrTop dp un gd cn cs L a ccd cl outer) (call (.ref 512) [.str x t]) Q E s := by
  refine wpAny_call ?_
  k_dflt cell_enter
  have hg2 : ∀ c ∈ x.cps.toList, Okc c := hg
  k_steps
  exact hret _ _ _ _ (by assumption) (news_tail (by assumption)) (by assumption)
end
structure RdS where
  y : Str
  ty : Tok
section
local macro_rules | `(tactic| k_all) => `(tactic| assumption)
local macro_rules | `(tactic| walk_at "pyIter ref") => `(tactic| ((with_reducible show wpAny _ _ (pyIter (Value.ref _)) (fun it s₂ => LoopAtV _ _ _ _ _ _ _ _ _ it s₂) _ _); k_extra "rounds loop"))
local macro_rules | `(tactic| walk_at "exec For Name Call cons nil") => `(tactic| (k_here; (rename Fr _ _ _ _ => lF'); (with_unfolding_all refine' For_invVF lF' ?k1 ?k2 ?_; (case k1 => exact rfl); (case k2 => exact rfl); k_whole)))
local macro_rules | `(tactic| walk_at "call ref") => `(tactic| (k_here; (with_reducible show wpAny _ _ (call (Value.ref 512) _ _) _ _ _); k_dflt (refine' read_spec ?k1 ?k2 ?k3 ?k4 ?k5 ?k6 ?k7 ?k8 ?k9 ?k10 ?_; (case k1 => k_asm); (case k2 => k_asm); (case k3 => k_asm); (case k4 => k_asm); (case k5 => k_asm); (case k6 => first | rfl | assumption); (case k7 => omega); (case k8 => assumption); (case k9 => ktr_room); (case k10 => ktr_units); k_whole); intro y' t' h' tk' F' N' hy'; (have hgy' := good_rd hy'); (have hly' := len_rd hy')))
variable {prog : Program} {w : World} {pp : Program} {loose : List Str} {mean : ExcName → Option Value} {mg mb : Str → Option Value} {dp un : Nat} {gd : Option (List Code)} {cn : Str} {cs : Scope} {a : Addr} {ccd : Value} {cl : List (Str × Addr)} {outer : List Env} {A₀ : Around} {base h₀ : Heap} {L : Addr} {m : Str → Option Value} {s : Shared} {Q E : Value → Shared → Prop}
    {news : List (Addr × Obj)} {x : Str} {t : Tok}
set_option maxRecDepth 100000 in
set_option maxHeartbeats 8000000 in
theorem rounds_spec 
    (B : Below A₀ base outer h₀) (F : Fr h₀ L s.heap m) (X : (Mine.hd.heap_39 w.params).In h₀) (N : News h₀ L s.heap news) (T : Top pp loose mean mg mb h₀) (hk : cs.kind = .function)
    (hx : x.length ≤ 1000) (hg : GoodT x)
    (hd : dp + 4 < recursionLimit) (hu : un + 32 < cLine)
    (hret : ∀ (y : Str) (t : Tok) (h' : Heap) (tk' : Nat), Fr h₀ L h' m → News h₀ L h' news → y.cps.toList = rounds 3 x.cps.toList → 
      Q (.str y t) { s with heap := h', toks := tk' }) :
    wpAny (model prog w) (ktrTop dp un gd cn cs L a ccd cl outer) (call (.ref 519) [.str x t]) Q E s := by
  refine wpAny_call ?_
  k_dflt cell_enter
  (k_with "rounds loop" => (
    rename Fr _ _ _ _ => lF
    rename News _ _ _ _ => lN
    rename IsRange _ _ _ _ _ _ _ _ => rgX
    with_unfolding_all refine' kst_range (σ := RdS) (n := 3) (fun _ => news) (fun c => [(Str.ofString "text", .str c.y c.ty)]) (fun _ => True) [Str.ofString "next_text"] (fun pre c => rounds (3 - pre.length) c.y.cps.toList = rounds 3 x.cps.toList ∧ GoodT c.y ∧ c.y.length ≤ 4 ^ pre.length * 1000) ⟨x, _⟩ (by rfl) rgX (by decide) (by rfl) lF ?kn True.intro ?kk ?kp ?kturn ?kdone
    case kn => with_unfolding_all exact lN
    case kk => kst_all
    case kp => exact ⟨rfl, hg, by simpa using hx⟩
    clear lF lN
    case' kturn =>
      intro c pre k t u h2 tk2 own hkk hpl hoff2 _ hP F2 N2
      obtain ⟨y, ty⟩ := c
      obtain ⟨hR, hgy, hly⟩ := hP
      dsimp only [kstB] at hR hgy hly F2 N2
      have hly2 : y.length ≤ 16000 := Nat.le_trans hly (by
        have h4 : 4 ^ pre.length ≤ 4 ^ 2 := Nat.pow_le_pow_right (by decide) (by omega)
        omega)
      try dsimp only
      show wpAny _ _ _ _ _ _
      try k_fold
    case' kdone =>
      intro c u h2 tk2 _ hP F2 N2
      obtain ⟨y, ty⟩ := c
      obtain ⟨hR, hgy, hly⟩ := hP
      dsimp only [kstB] at hR hgy hly F2 N2
      try k_fold))
  k_steps
  · exact hret _ _ _ _ (by assumption) (by assumption) (by simpa only [rangeKs_length, Nat.sub_self, rounds] using hR)
  · exact hret _ _ _ _ (by assumption) (news_left (by assumption)) ((rounds_stop' (by omega) (by assumption) (by assumption)).trans hR)
  · rename Fr _ _ _ _ => F9
    rename News _ _ _ _ => N9
    exact kst_end (⟨_, _⟩ : RdS) F9 N9 (fun q hq => List.mem_append_left _ hq) (fun q hq => List.mem_append_right _ hq) (by rfl) True.intro (by kst_all) (by kst_same) (by
      simp only [List.length_append, List.length_cons, List.length_nil]
      exact ⟨(rounds_go' hpl (by assumption) (by assumption)).trans hR, by assumption, len_go (by assumption) hly⟩)
end
end Mine
end

section
open PySem PySem.W PyProof.Rows PySem.Calls PySem.NumText
namespace Mine
open PySem.Builtin PySem.Builtin._codecs
theorem forIn_one {β : Type} (b : β) (f : Nat → β → Sem (ForInStep β)) : forIn [:1] b f = (f 0 b >>= fun r => match r with | .done b => pure b | .yield b => pure b) := by
  rw [Std.Legacy.Range.forIn_eq_forIn_range']
  simp only [Std.Legacy.Range.size, Nat.sub_zero, Nat.add_one_sub_one, Nat.div_one, List.range'_succ, List.range'_zero, List.forIn_cons, List.forIn_nil]
  congr
theorem encode2_tree (x : Str) (t t2 : Tok) : «str.encode» ⟨[.str x t, .str (Str.ofString "utf-8") t2], []⟩ = (do ret (← encodeRoad "str.encode" (.str x t) x (Str.ofString "utf-8") none)) := by
  kernel_rfl
theorem narrow_one {id : String} {self : Value} {c : Nat} (h : Str.isSurrogate c = false) : encodeNarrow id utf8Codec none self ⟨#[c]⟩ = pure (Str.utf8Of c).toArray := by
  unfold encodeNarrow
  have e : (⟨#[c]⟩ : Str).length = 1 := rfl
  rw [e]
  dsimp only
  rw [forIn_one]
  have e2 : (#[c] : Array Nat)[0]? = some c := rfl
  have e3 : (#[c] : Array Nat).extract 0 (#[c] : Array Nat).size = #[c] := rfl
  have e4 : Array.findIdx? Str.isSurrogate #[c] = none := by simp [h]
  have e5 : ¬ (#[] : Array UInt8).size > sizeLine := by rw [sizeLine_eq]; decide
  dsimp only
  rw [if_neg e5]
  simp only [utf8Codec, e2, h, Bool.not_false, if_true, e3, e4]
  show (pure (#[] ++ (Str.utf8Of c).toArray) : Sem (Array UInt8)) = _
  rw [Array.empty_append]
/-- the octets of a sign as bytes -/
theorem u8_bytes {c : Nat} (h : c < 1114112) : (Str.utf8Of c).map (fun b => (b.toNat : Int)) = zs (u8 c) := by
  have key : ∀ n : Nat, n < 256 → ((n.toUInt8).toNat : Int) = n := by
    intro n hn
    show (((UInt8.ofNat n).toNat : Nat) : Int) = n
    rw [UInt8.toNat_ofNat']
    omega
  unfold Str.utf8Of u8
  by_cases h1 : c < 128
  · rw [if_pos h1, if_pos h1]
    simp only [zs, List.map_cons, List.map_nil]
    rw [key _ (by omega)]
  · rw [if_neg h1, if_neg h1]
    by_cases h2 : c < 2048
    · rw [if_pos h2, if_pos h2]
      simp only [zs, List.map_cons, List.map_nil]
      rw [key _ (by omega), key _ (by omega)]
    · rw [if_neg h2, if_neg h2]
      by_cases h3 : c < 65536
      · rw [if_pos h3, if_pos h3]
        simp only [zs, List.map_cons, List.map_nil]
        rw [key _ (by omega), key _ (by omega), key _ (by omega)]
      · rw [if_neg h3, if_neg h3]
        simp only [zs, List.map_cons, List.map_nil]
        rw [key _ (by omega), key _ (by omega), key _ (by omega), key _ (by omega)]
section
variable {prog : Program} {w : World} {A : Around} {E : Value → Shared → Prop} {s : Shared} {x : Str} {t t2 : Tok}
theorem meets_encode {c : Nat} (h : Str.isSurrogate c = false) : Meets («str.encode» ⟨[.str ⟨#[c]⟩ t, .str (Str.ofString "utf-8") t2], []⟩) (fun _ R s => ∀ t' k, R (.ok (.ret (.bytes (Str.utf8Of c).toArray t'))) { s with toks := k }) := by
  refine .of_wp fun prog w A R s hS => ?_
  rw [encode2_tree, encodeRoad_utf8, narrow_one h]
  refine wpAny_bind (wpAny_bind (wpAny_pure ?_))
  exact wpAny_mkBytes (wpAny_pure ⟨_, rfl, hS _ _⟩) (by
    have : (Str.utf8Of c).length ≤ 4 := by
      unfold Str.utf8Of
      (repeat' split) <;> simp
    rw [List.size_toArray, sizeLine_eq]
    omega)
theorem call_encode {c : Nat} {Q : Value → Shared → Prop} (h : Str.isSurrogate c = false) (hq : ∀ t' k, Q (.bytes (Str.utf8Of c).toArray t') { s with toks := k }) :
    wpAny (model prog w) A (call (.builtin "str.encode") [.str ⟨#[c]⟩ t, .str (Str.ofString "utf-8") t2]) Q E s :=
  call_meets F.slot_str_encode (typeIs_str _ _ _) F.entry_str_encode (F.args_str_encode_2 _ _) (meets_encode h) hq
theorem method_encode {M : Model} {pl : Sem Bool} {Q : Value × List Value → Shared → Prop} (h : Q (.builtin "str.encode", [.str x t]) s) : wpAny M A (getMethod (.str x t) "encode" pl) Q E s := by
  with_reducible exact GM.of (.str x t) (typeIs_str _ _ _) F.slot_str_encode F.type_str_encode GM.noRef h
end
end Mine
end

section
open PySem PySem.W PyProof.Rows PySem.Calls PySem.NumText
namespace Mine
def hexAll : List Nat := [48,49,50,51,52,53,54,55,56,57,97,98,99,100,101,102,65,66,67,68,69,70]
theorem hexv_all {c v : Nat} (h : hexv c = some v) : c ∈ hexAll := by
  unfold hexv at h
  simp only [hexAll, List.mem_cons, List.not_mem_nil, or_false]
  split at h
  · omega
  · split at h
    · omega
    · split at h
      · omega
      · cases h
def hexChk (h l : Nat) : Bool :=
  (sign ([h, l].dropWhile blank)).1 == false && (based 16 (sign ([h, l].dropWhile blank)).2 == (16, false, [h, l])) &&
  (match hexv h, hexv l with | some a, some b => digits? 16 (([h, l].reverse.dropWhile blank).reverse) == some #[a, b] | _, _ => false) &&
  (numSeenOf ⟨#[h, l]⟩ == [h, l]) && (numTextOf ⟨#[h, l]⟩ == [h, l])
theorem hex_chk : ∀ h ∈ hexAll, ∀ l ∈ hexAll, hexChk h l = true := by decide +kernel
theorem hex_read {h l a b : Nat} (h1 : hexv h = some a) (h2 : hexv l = some b) :
    (int_private% "readNumeral") 0 16 [h, l] = (int_private% "Numeral.value") ((a * 16 + b : Nat) : Int) ∧ numSeenOf ⟨#[h, l]⟩ = [h, l] ∧ numTextOf ⟨#[h, l]⟩ = [h, l] := by
  have hc := hex_chk h (hexv_all h1) l (hexv_all h2)
  unfold hexChk at hc
  rw [h1, h2] at hc
  simp only [Bool.and_eq_true, beq_iff_eq] at hc
  obtain ⟨⟨⟨⟨c1, c2⟩, c3⟩, c4⟩, c5⟩ := hc
  refine ⟨?_, c4, c5⟩
  rw [readNumeral_eq, c1, c2]
  dsimp only
  rw [c3]
  show judge 0 false 16 false (some #[a, b]) = _
  unfold judge
  refine (if_neg (by simp)).trans ((if_neg (by simp)).trans ?_)
  show (int_private% "Numeral.value") (((#[a, b] : Array Nat).foldl (fun acc d => acc * 16 + d) 0 : Nat) : Int) = _
  congr 2
  show (0 * 16 + a) * 16 + b = a * 16 + b
  omega
theorem wp_text16 {M : Model} {A : Around} {E : Value → Shared → Prop} {s : Shared} {Q : Value → Shared → Prop} {v : Value} {text : List Nat} {n : Int}
    (hs : (text.takeWhile (· != 0)).length ≤ 640) (hr : (int_private% "readNumeral") 0 16 (text.takeWhile (· != 0)) = (int_private% "Numeral.value") n)
    (ha : ((text.takeWhile (· != 0)).length == text.length) = true) (h : Q (.int n s.toks) { s with toks := s.toks + 1 }) :
    wpAny M A ((int_private% "intFromText") v text 16) Q E s := by
  obtain ⟨hp, g, d, tk, os⟩ := s
  repeat (any_goals (first
    | assumption
    | (with_reducible refine wpAny_ite_true (decide_eq_true hs) ?_)
    | (with_reducible refine wpAny_ite_true (decide_eq_true ha) ?_)
    | wp_step))
  all_goals (try rw [hr])
  all_goals (try dsimp only)
  repeat (any_goals (first
    | assumption
    | (with_reducible refine wpAny_ite_true (decide_eq_true hs) ?_)
    | (with_reducible refine wpAny_ite_true (decide_eq_true ha) ?_)
    | wp_step))
structure Hid2 (p : Prop) : Prop where
  out : p
theorem idx_int {id : String} {M : Model} {A : Around} {E : Value → Shared → Prop} {s : Shared} {Q : Int → Shared → Prop} {t : Tok} (h : Q 16 s) : wpAny M A (Builtin.Int.intIndex id (.int 16 t)) Q E s := by
  obtain ⟨hp, g, d, tk, os⟩ := s
  unfold Builtin.Int.intIndex
  repeat (any_goals (first | assumption | wp_step))
set_option maxHeartbeats 4000000 in
theorem gives_hex {x : PySem.Str} {u t2 : Tok} {n : Int} (hs : (numSeenOf x).length ≤ 640) (hr : (int_private% "readNumeral") 0 16 (numSeenOf x) = (int_private% "Numeral.value") n) (ha : ((numSeenOf x).length == (numTextOf x).length) = true) :
    Gives (Builtin.«int.__new__» ⟨[.type "int", .str x u, .int 16 t2], []⟩) (.int n) :=
  .of_wp fun M A E s Q h => by
    obtain ⟨hp, g, d, tk, os⟩ := s
    have f1 := F.conv_sub_int
    have f2 := F.madeHere_int
    have f6 : typeOf (.str x u) = pure (.type "str") := rfl
    have hk := Hid2.mk (And.intro hs (And.intro hr ha))
    clear hs hr ha
    repeat (any_goals (first
      | assumption
      | ((with_reducible show wpAny _ _ (Builtin.Int.intIndex _ _) _ _ _); refine idx_int ?_)
      | ((with_reducible show wpAny _ _ ((int_private% "intFromText") _ _ _) _ _ _); refine wp_text16 hk.out.1 hk.out.2.1 hk.out.2.2 ?_)
      | wp_step))
    all_goals first | exact ⟨_, rfl, h⟩ | skip
section
variable {prog : Program} {w : World} {A : Around} {E : Value → Shared → Prop} {s : Shared} {Q : Value → Shared → Prop}
theorem typeCall_int_2 (a b : Value) : checkTypeCall "int" ⟨[a, b], []⟩ = pure () := by kernel_rfl
theorem newCall_int_2 (a b : Value) : checkBuiltinCall "int.__new__" ⟨[.type "int", a, b], []⟩ = pure () := by kernel_rfl
theorem call_hex {h l a b : Nat} {t t2 : Tok} (h1 : hexv h = some a) (h2 : hexv l = some b) (hq : Q (.int ((a * 16 + b : Nat) : Int) s.toks) { s with toks := s.toks + 1 }) :
    wpAny (model prog w) A (call (.type "int") [.str ⟨#[h, l]⟩ t, .int 16 t2]) Q E s := by
  obtain ⟨r1, r2, r3⟩ := hex_read h1 h2
  refine callType_new F.called_int F.newNe_int (typeCall_int_2 _ _) (newCall_int_2 _ _) (fun obj => F.args_object_init_3 obj _ _) F.entry_int_new (gives_hex (x := ⟨#[h, l]⟩) (by rw [r2]; simp) (by rw [r2]; exact r1) (by rw [r2, r3]; rfl)).meets ?_
  exact (show (Made.int ((a * 16 + b : Nat) : Int)).post _ s from ⟨rfl, hq⟩)
end
end Mine
end

section
open PySem PySem.W PyProof.Rows PySem.Calls
namespace Mine
open PySem.Builtin
theorem fr_but {h₀ h h' : Heap} {L l : Addr} {m : Str → Option Value} (F : Fr h₀ L h m) (hl : l ≠ L) (h0 : h₀.get? l = none) (hk : ∀ a o, a ≠ l → h.get? a = some o → h'.get? a = some o) : Fr h₀ L h' m := by
  obtain ⟨oL, a1, a2, hL, a3⟩ := F.ns
  refine ⟨⟨oL, a1, a2, hk _ _ (Ne.symm hl) hL, a3⟩, fun b o e => hk b o ?_ (F.keep b o e), F.above⟩
  intro e2
  rw [e2, h0] at e
  cases e
theorem news_but {h₀ h h' : Heap} {L l : Addr} {o o' : Obj} {rest : List (Addr × Obj)} (N : News h₀ L h ((l, o) :: rest)) (hoff : ∀ q ∈ rest, q.1 ≠ l) (hk : ∀ a o, a ≠ l → h.get? a = some o → h'.get? a = some o) (hl : h'.get? l = some o') : News h₀ L h' ((l, o') :: rest) := by
  intro p hp
  rcases List.mem_cons.mp hp with rfl | hp
  · exact ⟨hl, (N _ (.head _)).2⟩
  · exact ⟨hk _ _ (hoff p hp) (N _ (.tail _ hp)).1, (N _ (.tail _ hp)).2⟩
section
variable {prog : Program} {w : World} {A : Around} {R : Result → Shared → Prop}
theorem ext_loop (hh : A.handled = none) (l I : Addr) (hlI : l ≠ I) (b : Array UInt8) (t : Tok) :
    ∀ (k i : Nat) (s : Shared) (vs : List Value) (c : Nat), b.size - i = k → i ≤ b.size → KBw.IsBytesIter s.heap I b t i → s.heap.get? l = some (listOf vs.toArray c) → vs.length + k ≤ sizeLine →
    (∀ h' tk ws c', (∀ a o, a ≠ l → a ≠ I → s.heap.get? a = some o → h'.get? a = some o) → h'.get? l = some (listOf (vs ++ ws).toArray c') → IntsAre ws ((KBw.bInts b).drop i) → R (.ok (.ret .none)) { s with heap := h', toks := tk }) →
    codeAny (model prog w) A (.builtin "list.extend.loop" ⟨[.ref l, .ref I, .none], []⟩) R s := by
  intro k
  induction k with
  | zero =>
    intro i s vs c hk hi hit hl hsz hR
    have hin : i = b.size := by omega
    subst hin
    refine codeAny_builtin F.entry_extend_loop ?_
    rw [Around.under_plainId F.plain_extend_loop _]
    show wpAny _ A.in1 (pyNext (.ref I) >>= _) _ _ s
    refine wpAny_bind (KBw.next_end hh hit (by simp) fun h' he => ?_)
    refine wpAny_pure (hR h' s.toks [] c (fun a o _ ha e => he a o ha e) (by rw [List.append_nil]; exact he l _ hlI hl) ?_)
    rw [List.drop_eq_nil_iff.mpr (by rw [KBw.ints_length]; exact Nat.le_refl _)]
    exact .nil
  | succ k ih =>
    intro i s vs c hk hi hit hl hsz hR
    have hlt : i < b.size := by omega
    refine codeAny_builtin F.entry_extend_loop ?_
    rw [Around.under_plainId F.plain_extend_loop _]
    show wpAny _ A.in1 (pyNext (.ref I) >>= _) _ _ s
    refine wpAny_bind (KBw.next_item hit (c := b[i]) (by simp [hlt]) fun h1 hit1 hs1 => ?_)
    have hl1 : h1.get? l = some (listOf vs.toArray c) := hs1.extBut l _ hlI hl
    show wpAny _ A.in1 (updateSeq l (·.push _) >>= _) _ _ _
    refine wpAny_bind ?_
    refine wpAny_updateSeq hl1 rfl (wpAny_pure ⟨plainId_quiet F.plain_extend_loop _, ?_⟩) (by rw [List.size_toArray]; omega) (by rw [Array.size_push, List.size_toArray]; omega)
    have hl2 := Heap.get?_update_self (Obj.mapSeq (·.push (Value.int ((b[i]).toNat : Int) s.toks))) hl1 rfl
    refine ih (i + 1) _ (vs ++ [Value.int ((b[i]).toNat : Int) s.toks]) (c + 1) (by omega) hlt ?_ ?_ (by simp; omega) fun h' tk ws c' hk' hl' hw => ?_
    · obtain ⟨o, ho, r⟩ := hit1
      exact ⟨o, (Heap.get?_update_other _ _ hlI).trans ho, r⟩
    · refine hl2.trans ?_
      simp [Obj.mapSeq]
    · refine hR h' tk (Value.int ((b[i]).toNat : Int) s.toks :: ws) c' (fun a o hal haI e => hk' a o hal haI ((Heap.get?_update_other _ _ (Ne.symm hal)).trans (hs1.extBut a o haI e))) (by simpa using hl') ?_
      have hget : (KBw.bInts b)[i]? = some ((b[i]).toNat : Int) := KBw.ints_get (by simp [hlt])
      obtain ⟨hlt2, he2⟩ := List.getElem?_eq_some_iff.mp hget
      rw [List.drop_eq_getElem_cons hlt2, he2]
      exact .cons _ _ hw
end
theorem split_blen : splitId "bytes.__len__" = some ("bytes", "__len__") := by decide +kernel
theorem sub_bytes_bytes : isSubtype (.type "bytes") (.type "bytes") = pure true := by rw [isSubtype_type]; kernel_rfl
section
variable {prog : Program} {w : World} {A : Around} {E : Value → Shared → Prop} {s : Shared}
theorem hint_bytes {M : Model} {b : Array UInt8} {t : Tok} {Q : Bool → Shared → Prop} (h : Q false s) : wpAny M A (Builtin.List.listLengthHint (.bytes b t)) Q E s := by
  have hT : s.TypeIs (.bytes b t) "bytes" := typeIs_bytes s b t
  unfold Builtin.List.listLengthHint
  refine wpAny_bind (wpAny_specialOf hT FB.slot_bytes_len.lookup ?_)
  dsimp only
  rw [split_blen]
  dsimp only
  refine wpAny_bind (wpAny_isInstance hT sub_bytes_bytes ?_)
  refine bm_if_false rfl ?_
  refine bm_if_true (by decide +kernel) ?_
  refine wpAny_bind (wpAny_typeOf hT ?_)
  exact wpAny_pure h
theorem extend_K {h₀ : Heap} {L l : Addr} {m : Str → Option Value} {vs : List Value} {n : Nat} {rest : List (Addr × Obj)} {b : Array UInt8} {t : Tok} {Q : Value → Shared → Prop}
    (F : Fr h₀ L s.heap m) (N : News h₀ L s.heap ((l, listOf vs.toArray n) :: rest)) (hoff : ∀ q ∈ rest, q.1 ≠ l) (hh : A.handled = none) (hsz : vs.length + b.size ≤ sizeLine)
    (h : ∀ h' tk ws n', Fr h₀ L h' m → News h₀ L h' ((l, listOf (vs ++ ws).toArray n') :: rest) → IntsAre ws (KBw.bInts b) → Q .none { s with heap := h', toks := tk }) :
    wpAny (model prog w) A (call (.builtin "list.extend") [.ref l, .bytes b t]) Q E s := by
  have hm := N _ (.head _)
  have hls : s.heap.IsList l vs.toArray := ⟨_, hm.1, rfl, _, rfl⟩
  refine call_meets PySem.F.slot_list_extend (S := fun A' R' s' => A' = A ∧ R' = wants Q E ∧ s' = s) hls.typeIs PySem.F.entry_list_extend (PySem.F.args_list_extend_2 _ _) ?_ ⟨rfl, rfl, rfl⟩
  rintro prog' w' A' R' s' ⟨rfl, rfl, rfl⟩
  show wpAny _ _ (Builtin.List.listExtendWith (.ref l) (.bytes b t) .none) _ _ _
  unfold Builtin.List.listExtendWith
  have hT : s'.TypeIs (.bytes b t) "bytes" := typeIs_bytes s' b t
  refine wpAny_bind (wpAny_typeOf hT ?_)
  refine bm_if_false (by show (false || (Value.type "bytes" == Value.type "list") || (Value.type "bytes" == Value.type "tuple")) = false; decide +kernel) ?_
  refine wpAny_bind (KBw.pyIter_bytes ?_)
  refine wpAny_bind (wpAny_holding (hint_bytes ?_))
  refine bm_if_false (by decide +kernel) ?_
  have hlt : l < s'.heap.objs.size := Heap.lt_size hm.1
  refine wpAny_pure ⟨plainId_quiet PySem.F.plain_extend_loop _, ext_loop hh l s'.heap.objs.size (Nat.ne_of_lt hlt) b t b.size 0 _ vs n rfl (Nat.zero_le _) ⟨_, Heap.get?_push_size _ rfl, rfl, rfl⟩ (Heap.get?_push_of_some _ hm.1) hsz fun h' tk ws c' hk hl hw => ?_⟩
  have hk2 : ∀ a o, a ≠ l → s'.heap.get? a = some o → h'.get? a = some o := fun a o ha e => hk a o ha (Nat.ne_of_lt (Heap.lt_size e)) (Heap.get?_push_of_some _ e)
  exact h h' tk ws c' (fr_but F hm.2.1 hm.2.2 hk2) (news_but N hoff hk2 hl) (by simpa using hw)
end
end Mine
end

section
open PySem PySem.W PyProof.Rows PySem.Calls
set_option maxRecDepth 100000
namespace Mine
open PySem.Builtin PySem.Builtin.UnicodeEncodeError
/-! the exception object of the decoder -/
abbrev uxO (fs : List Value) : Obj := { cls := .type "UnicodeDecodeError", data := .fields fs.toArray }
def Kept (e : Addr) (h h' : Heap) : Prop := ∀ a o, a ≠ e → h.get? a = some o → h'.get? a = some o
theorem Kept.trans {e : Addr} {h h' h'' : Heap} (x : Kept e h h') (y : Kept e h' h'') : Kept e h h'' := fun a o ha e => y a o ha (x a o ha e)
theorem Kept.refl {e : Addr} {h : Heap} : Kept e h h := fun _ _ _ e => e
section
variable {M : Model} {A : Around} {E : Value → Shared → Prop} {s : Shared} {e : Addr}
theorem wp_fieldsOf {fs : List Value} {Q : Array Value → Shared → Prop} (he : s.heap.get? e = some (uxO fs)) (h : Q fs.toArray s) : wpAny M A (fieldsOf (.ref e)) Q E s := by
  unfold fieldsOf
  exact wpAny_bind (wpAny_load he (wpAny_pure h))
theorem wp_members0 {a b c d f g : Value} {Q : Members → Shared → Prop} (he : s.heap.get? e = some (uxO [a, b, c, d, f, g])) (h : Q {} s) : wpAny M A (members (.ref e)) Q E s := by
  unfold members
  exact wpAny_bind (wp_fieldsOf he (wpAny_pure h))
theorem wp_members {a b c d f g en ob rs : Value} {st sp : Int} {t1 t2 : Tok} {Q : Members → Shared → Prop} (he : s.heap.get? e = some (uxO [a, b, c, d, f, g, en, ob, .int st t1, .int sp t2, rs])) (h : Q ⟨en, ob, st, sp, rs⟩ s) : wpAny M A (members (.ref e)) Q E s := by
  unfold members
  exact wpAny_bind (wp_fieldsOf he (wpAny_pure h))
theorem wp_setMembers {a b c d f g : Value} {r : List Value} {m : Members} {Q : Unit → Shared → Prop} (he : s.heap.get? e = some (uxO (a :: b :: c :: d :: f :: g :: r)))
    (h : ∀ h', Kept e s.heap h' → h'.get? e = some (uxO [a, b, c, d, f, g, m.encoding, m.object, rawInt m.start, rawInt m.stop, m.reason]) → Q () { s with heap := h' }) : wpAny M A (setMembers (.ref e) m) Q E s := by
  unfold setMembers
  have hg := Heap.get?_update_self (Obj.mapFields fun vs => vs.extract 0 6 ++ #[m.encoding, m.object, rawInt m.start, rawInt m.stop, m.reason]) he rfl
  refine wpAny_updateFields he rfl (h _ (fun x o hx e1 => (Heap.get?_update_other _ _ (Ne.symm hx)).trans e1) ?_) (by simp [sizeLine_eq])
  refine hg.trans ?_
  simp [Obj.mapFields]
theorem wp_setField0 {a x : Value} {r : List Value} {Q : Unit → Shared → Prop} (he : s.heap.get? e = some (uxO (a :: r)))
    (h : ∀ h', Kept e s.heap h' → h'.get? e = some (uxO (x :: r)) → Q () { s with heap := h' }) : wpAny M A (setField (.ref e) 0 x) Q E s := by
  have hg := Heap.get?_update_self (Obj.mapFields (·.setIfInBounds 0 x)) he rfl
  refine wpAny_setField he rfl (by simp) (h _ (fun y o hy e1 => (Heap.get?_update_other _ _ (Ne.symm hy)).trans e1) ?_)
  refine hg.trans ?_
  simp [Obj.mapFields]
theorem wp_field0 {a : Value} {r : List Value} {Q : Value → Shared → Prop} (he : s.heap.get? e = some (uxO (a :: r))) (h : Q a s) : wpAny M A (field (.ref e) 0) Q E s :=
  wpAny_field he rfl (x := a) (by simp) h
theorem wp_begin {id : String} {a b c d f g : Value} {rest : List Value} {Q : Value × List Value → Shared → Prop} (he : s.heap.get? e = some (uxO [a, b, c, d, f, g])) (hr : rest.length = 5)
    (h : ∀ h' t, Kept e s.heap h' → h'.get? e = some (uxO [.ref t, b, c, d, f, g, unset, unset, rawInt 0, rawInt 0, unset]) → Q (.ref e, rest) { s with heap := h' }) :
    wpAny M A (beginInit id 5 ⟨.ref e :: rest, []⟩) Q E s := by
  unfold beginInit
  dsimp only
  refine bm_if_false rfl ?_
  refine wpAny_bind (wp_field0 he ?_)
  refine wpAny_bind ?_
  unfold newTuple
  refine wpAny_newObj_type ?_ (by show rest.toArray.size ≤ sizeLine; rw [List.size_toArray, hr, sizeLine_eq]; decide)
  have he1 : (s.heap.push { cls := .type "tuple", data := .seq rest.toArray }).get? e = some (uxO [a, b, c, d, f, g]) := Heap.get?_push_of_some _ he
  have k1 : Kept e s.heap (s.heap.push { cls := .type "tuple", data := .seq rest.toArray }) := fun x o _ e1 => Heap.get?_push_of_some _ e1
  refine wpAny_bind (wp_setField0 he1 fun h2 k2 he2 => ?_)
  refine wpAny_bind (wpAny_letGo ?_)
  refine bm_if_true rfl ?_
  refine wpAny_bind (wp_members0 he2 ?_)
  refine wpAny_bind (wp_setMembers he2 fun h3 k3 he3 => ?_)
  refine wpAny_bind (wpAny_letGo ?_)
  refine wpAny_bind (wp_members he3 ?_)
  refine wpAny_bind (wp_setMembers he3 fun h4 k4 he4 => ?_)
  refine wpAny_bind (wpAny_letGo ?_)
  refine wpAny_bind (wp_members he4 ?_)
  refine wpAny_bind (wp_setMembers he4 fun h5 k5 he5 => ?_)
  refine wpAny_bind (wpAny_letGo ?_)
  refine bm_if_false (by rw [hr]; rfl) ?_
  exact wpAny_pure (h h5 _ (k1.trans (k2.trans (k3.trans (k4.trans k5)))) he5)
theorem wp_size {id : String} {i : Int} {t : Tok} {Q : Int → Shared → Prop} (h0 : -(2 ^ 63 : Int) ≤ i) (h1 : i < 2 ^ 63) (h : Q i s) : wpAny M A (sizeArgument id (.int i t)) Q E s := by
  unfold sizeArgument
  refine wpAny_bind ?_
  have hc : (decide (i < -(2 ^ 63 : Int)) || decide (i ≥ 2 ^ 63)) = false := by
    rw [Bool.or_eq_false_iff]
    exact ⟨decide_eq_false (by omega), decide_eq_false (by omega)⟩
  have key : wpAny M A (asIndex (.int i t)) (fun a s' => a = i ∧ s' = s) E s := by
    obtain ⟨hp, g, d, tk, os⟩ := s
    unfold asIndex
    repeat (any_goals (first | assumption | wp_step))
    exact ⟨rfl, rfl⟩
  refine wpAny_mono key (fun a s' hq => ?_) fun _ _ x => x
  obtain ⟨rfl, rfl⟩ := hq
  exact bm_if_false hc (wpAny_pure h)
theorem wp_strArg {id : String} {n : Nat} {x : Str} {t : Tok} {Q : Unit → Shared → Prop} (h : Q () s) : wpAny M A (strArgument id n (.str x t)) Q E s := by
  unfold strArgument
  exact wpAny_bind (wpAny_of_eq (a := some x) rfl (bm_if_false rfl (wpAny_pure h)))
theorem wp_init {a b c d f g : Value} {en rs : Str} {bs : Array UInt8} {st sp : Int} {t1 t2 t3 u1 u2 : Tok} {Q : Fin → Shared → Prop} (he : s.heap.get? e = some (uxO [a, b, c, d, f, g]))
    (hs0 : -(2 ^ 63 : Int) ≤ st) (hs1 : st < 2 ^ 63) (hp0 : -(2 ^ 63 : Int) ≤ sp) (hp1 : sp < 2 ^ 63)
    (h : ∀ h' t, Kept e s.heap h' → h'.get? e = some (uxO [.ref t, b, c, d, f, g, .str en t1, .bytes bs t2, rawInt st, rawInt sp, .str rs t3]) → Q (.done (.ret .none)) { s with heap := h' }) :
    wpAny M A («UnicodeDecodeError.__init__» ⟨[.ref e, .str en t1, .bytes bs t2, .int st u1, .int sp u2, .str rs t3], []⟩) Q E s := by
  unfold «UnicodeDecodeError.__init__»
  refine wpAny_bind (wp_begin he rfl fun h1 t k1 he1 => ?_)
  dsimp only
  refine wpAny_bind (wp_strArg ?_)
  refine wpAny_bind ?_
  unfold initRange
  refine wpAny_bind (wp_size hs0 hs1 ?_)
  refine wpAny_bind (wp_members he1 ?_)
  refine wpAny_bind (wp_setMembers he1 fun h2 k2 he2 => ?_)
  refine wpAny_bind (wp_size hp0 hp1 ?_)
  refine wpAny_bind (wp_members he2 ?_)
  refine wp_setMembers he2 fun h3 k3 he3 => ?_
  refine wpAny_bind (wp_strArg ?_)
  refine wpAny_bind (wpAny_of_eq (a := some bs) rfl ?_)
  refine bm_if_true rfl (wpAny_bind (wpAny_pure ?_))
  refine bm_if_true rfl (wpAny_bind (wpAny_pure ?_))
  refine bm_if_false rfl ?_
  refine wpAny_bind (wp_members he3 ?_)
  refine wpAny_bind (wp_setMembers he3 fun h4 k4 he4 => ?_)
  exact wpAny_pure (h h4 t (k1.trans (k2.trans (k3.trans k4))) he4)
end
end Mine
end

section
open PySem PySem.W PyProof.Rows PySem.Calls
set_option maxRecDepth 100000
namespace Mine
open PySem.Builtin PySem.Builtin.UnicodeEncodeError
theorem ux_new : ExcNewFacts "UnicodeDecodeError" "UnicodeDecodeError.__new__" where
  ends := by decide +kernel
  owner := by decide +kernel
  entry := entryFor_alias (id' := "BaseException.__new__") (by rw [fastTable_eq_tree]; kernel_rfl) (by first | rfl | decide +kernel) (by decide +kernel) (by rw [fastTable_eq_tree]; kernel_rfl)
  sub := by rw [isSubtype_type]; kernel_rfl
  notAttr := by rw [isSubtype_type]; kernel_rfl
  notName := by rw [isSubtype_type]; kernel_rfl
  made := by kernel_rfl
theorem ux_notType : (Value.type "UnicodeDecodeError" == Value.type "type") = false := by decide +kernel
theorem ux_canMake : ((Manifest.find? "UnicodeDecodeError").bind fun x => List.findSome? (fun t => (Manifest.find? t).bind fun b =>
    if b.noNew = true then some true else if (b.attrs.any fun x => x.fst == "__new__") = true then some false else none) x.mro).getD false = false := by kernel_rfl
theorem ux_noVector (args : Args) : checkTypeCall "UnicodeDecodeError" args = pure () := by kernel_rfl
theorem ux_mro : mroOf (.type "UnicodeDecodeError") = pure [.type "UnicodeDecodeError", .type "UnicodeError", .type "ValueError", .type "Exception", .type "BaseException", .type "object"] := by rw [mroOf_type]; kernel_rfl
theorem ux_madeBy : Bind.madeBy (.type "UnicodeDecodeError") = pure (some "UnicodeDecodeError.__new__") := by kernel_rfl
theorem ux_newOk (rest : List Value) : checkBuiltinCall "UnicodeDecodeError.__new__" ⟨.type "UnicodeDecodeError" :: rest, []⟩ = pure () := by kernel_rfl
theorem ux_init : Slot "UnicodeDecodeError" "__init__" "UnicodeDecodeError.__init__" :=
  .of (owner := "UnicodeDecodeError") (n := "__init__") (by rw [typeLookup_type, builtinLookup_eq_fast]; kernel_rfl) (by decide +kernel) (by decide +kernel) (by decide +kernel)
    (by first | exact .inl (by decide +kernel) | exact .inr (by decide +kernel)) (by rw [isSubtype_type]; kernel_rfl)
theorem ux_initEntry : entryFor table "UnicodeDecodeError.__init__" = some «UnicodeDecodeError.__init__» := entryFor_of_tree (by kernel_rfl)
theorem ux_initArgs (o a b c d e : Value) : argsOk "UnicodeDecodeError.__init__" ⟨[o, a, b, c, d, e], []⟩ := by
  unfold argsOk; kernel_rfl
section
variable {prog : Program} {w : World} {A : Around} {E : Value → Shared → Prop}
theorem ux_typecall {en rs : Str} {bs : Array UInt8} {st sp : Int} {t1 t2 t3 u1 u2 : Tok} {hp : Heap} {g : Array GenState} {d : Drawn} {tk : Nat} {os : OsState} {Q : PySem.Fin → Shared → Prop}
    (hs0 : -(2 ^ 63 : Int) ≤ st) (hs1 : st < 2 ^ 63) (hp0 : -(2 ^ 63 : Int) ≤ sp) (hp1 : sp < 2 ^ 63)
    (h : ∀ h' e t, (∀ a o, hp.get? a = some o → h'.get? a = some o) → hp.get? e = none → h'.get? e = some (uxO [.ref t, .none, .none, .none, .bool false, .none, .str en t1, .bytes bs t2, rawInt st, rawInt sp, .str rs t3]) → Q (.done (.ret (.ref e))) ⟨h', g, d, tk, os⟩) :
    wpAny (model prog w) A (Builtin.«type.__call__» ⟨[.type "UnicodeDecodeError", .str en t1, .bytes bs t2, .int st u1, .int sp u2, .str rs t3], []⟩) Q E ⟨hp, g, d, tk, os⟩ := by
  have hnt := ux_notType
  have hcan := ux_canMake
  have hchk := ux_noVector ⟨[.str en t1, .bytes bs t2, .int st u1, .int sp u2, .str rs t3], []⟩
  have hmro := ux_mro
  have hmade := ux_madeBy
  wp_walk
  refine codeAny_call_builtin_code (Code.quiet_builtin _ (by decide +kernel)) (wpAny_of_eq (ux_newOk _) ?_)
  refine codeAny_exc_new ux_new ?_ (by rw [sizeLine_eq]; simp)
  show wpAny _ _ _ _ _ _
  have hget : ((hp.push { cls := .type "tuple", data := .seq [Value.str en t1, .bytes bs t2, .int st u1, .int sp u2, .str rs t3].toArray }).push
      { cls := .type "UnicodeDecodeError", data := .fields #[.ref hp.objs.size, .none, .none, .none, .bool false, .none] }).get? (hp.objs.size + 1) = some
      { cls := .type "UnicodeDecodeError", data := .fields #[.ref hp.objs.size, .none, .none, .none, .bool false, .none] } := by heap_get
  refine wpAny_bind (wpAny_isInstance ⟨_, hget, rfl⟩ ux_new.sub ?_)
  wp_step
  refine wpAny_bind (wpAny_holding (wpAny_callSpecial?_slot ⟨_, hget, rfl⟩ ux_init (wpAny_call (codeAny_call_builtin ux_init.plain ux_initEntry (ux_init.check _ _ _ _ _ _ _ _ ⟨_, hget, rfl⟩ (ux_initArgs _ _ _ _ _ _) ?_)))))
  refine wp_init hget hs0 hs1 hp0 hp1 fun h' t k he => ?_
  show wpAny _ _ _ _ _ _
  wp_walk
  refine h h' _ t (fun a o e1 => k a o (Nat.ne_of_lt (Nat.lt_succ_of_lt (Heap.lt_size e1))) (Heap.get?_push_of_some _ (Heap.get?_push_of_some _ e1))) (Heap.get?_none_of_le (Nat.le_succ _)) he
theorem ux_call {en rs : Str} {bs : Array UInt8} {st sp : Int} {t1 t2 t3 u1 u2 : Tok} {s : Shared} {Q : Value → Shared → Prop}
    (hs0 : -(2 ^ 63 : Int) ≤ st) (hs1 : st < 2 ^ 63) (hp0 : -(2 ^ 63 : Int) ≤ sp) (hp1 : sp < 2 ^ 63)
    (h : ∀ h' e t, (∀ a o, s.heap.get? a = some o → h'.get? a = some o) → s.heap.get? e = none → h'.get? e = some (uxO [.ref t, .none, .none, .none, .bool false, .none, .str en t1, .bytes bs t2, rawInt st, rawInt sp, .str rs t3]) → Q (.ref e) { s with heap := h' }) :
    wpAny (model prog w) A (call (.type "UnicodeDecodeError") [.str en t1, .bytes bs t2, .int st u1, .int sp u2, .str rs t3]) Q E s := by
  refine wpAny_call (codeAny_of_tree ?_)
  show wpAny _ _ (again (.builtin "type.__call__" ⟨[.type "UnicodeDecodeError", .str en t1, .bytes bs t2, .int st u1, .int sp u2, .str rs t3], []⟩)) _ _ _
  exact wpAny_pure ⟨Code.quiet_builtin _ (by decide +kernel), codeAny_builtin entry_typeCall (ux_typecall hs0 hs1 hp0 hp1 fun h' e t k n he => h h' e t k n he)⟩
end
end Mine
end

section
open PySem PySem.W PyProof.Rows PySem.Calls
set_option maxRecDepth 100000
namespace Mine
open PySem.Builtin PySem.Builtin.UnicodeEncodeError PySem.Builtin._codecs
theorem rp_kind : builtinKind "_codecs.lookup_error.replace_errors" = none := by decide +kernel
theorem rp_plain : plainId "_codecs.lookup_error.replace_errors" = true := by decide +kernel
theorem rp_entry : entryFor table "_codecs.lookup_error.replace_errors" = some «_codecs.lookup_error.replace_errors» := entryFor_of_tree (by kernel_rfl)
theorem rp_args (a : Value) : argsOk "_codecs.lookup_error.replace_errors" ⟨[a], []⟩ := by unfold argsOk; kernel_rfl
theorem sub_ux_enc : isSubtype (.type "UnicodeDecodeError") (.type "UnicodeEncodeError") = pure false := by rw [isSubtype_type]; kernel_rfl
theorem sub_ux_dec : isSubtype (.type "UnicodeDecodeError") (.type "UnicodeDecodeError") = pure true := by rw [isSubtype_type]; kernel_rfl
theorem sub_ux_tr : isSubtype (.type "UnicodeDecodeError") (.type "UnicodeTranslateError") = pure false := by rw [isSubtype_type]; kernel_rfl
section
variable {M : Model} {A : Around} {E : Value → Shared → Prop} {s : Shared} {e : Addr} {bs : Array UInt8} {a b c d f g en rs : Value} {st sp : Int} {tb v1 v2 : Tok}
theorem wp_seen {Q : _codecs.Kind × Array Nat × Int × Int → Shared → Prop} (he : s.heap.get? e = some (uxO [a, b, c, d, f, g, en, .bytes bs tb, .int st v1, .int sp v2, rs])) (hne : 0 < bs.size)
    (h : Q (.decode, bs.map (·.toNat), min (max st 0) ((bs.size : Int) - 1), min (max sp 1) bs.size) s) : wpAny M A (_codecs.seen "replace_errors" (.ref e)) Q E s := by
  have hT : s.TypeIs (.ref e) "UnicodeDecodeError" := ⟨_, he, rfl⟩
  unfold _codecs.seen
  refine wpAny_bind (wpAny_isInstance hT sub_ux_enc ?_)
  refine wpAny_bind (wpAny_isInstance hT sub_ux_dec ?_)
  refine wpAny_bind (wpAny_isInstance hT sub_ux_tr ?_)
  dsimp only
  refine bm_if_false rfl ?_
  refine bm_if_true rfl ?_
  refine wpAny_bind (wpAny_pure ?_)
  refine bm_if_false rfl ?_
  refine wpAny_bind (wp_members he ?_)
  refine bm_if_false rfl ?_
  refine bm_if_true rfl ?_
  dsimp only
  refine wpAny_bind (wpAny_pure ?_)
  refine bm_if_false (by
    simp only [Array.isEmpty, Array.size_map]
    exact decide_eq_false (by omega)) ?_
  refine wpAny_pure ?_
  simpa using h
end
section
variable {prog : Program} {w : World} {A : Around} {E : Value → Shared → Prop} {s : Shared} {e : Addr} {bs : Array UInt8} {a b c d f g en rs : Value} {st sp : Int} {tb v1 v2 : Tok}
theorem handler_call {Q : Value → Shared → Prop} (he : s.heap.get? e = some (uxO [a, b, c, d, f, g, en, .bytes bs tb, .int st v1, .int sp v2, rs])) (h1 : 1 ≤ sp) (h2 : sp ≤ bs.size)
    (h : ∀ h' r t1 t2 tk, (∀ a o, s.heap.get? a = some o → h'.get? a = some o) → h'.get? r = some { cls := .type "tuple", data := .seq #[.str ⟨#[65533]⟩ t1, .int sp t2] } → Q (.ref r) { s with heap := h', toks := tk }) :
    wpAny (model prog w) A (call (.builtin "_codecs.lookup_error.replace_errors") [.ref e]) Q E s := by
  refine call_function_meets rp_kind rp_plain rp_entry (S := fun A' R' s' => R' = wants Q E ∧ s' = s) (rp_args _) ?_ ⟨rfl, rfl⟩
  rintro prog' w' A' R' s' ⟨rfl, rfl⟩
  unfold «_codecs.lookup_error.replace_errors»
  refine wpAny_bind (wpAny_of_eq (a := .ref e) rfl ?_)
  refine wpAny_bind (wp_seen he (by omega) ?_)
  dsimp only
  refine bm_if_true rfl ?_
  have e1 : min (max sp 1) (bs.size : Int) = sp := by omega
  rw [e1]
  unfold answer
  refine wpAny_bind (wpAny_mkStr (x := ⟨#[65533]⟩) (wpAny_bind (wpAny_mkInt ?_)) (by show (1 : Nat) ≤ sizeLine; rw [sizeLine_eq]; decide))
  refine wpAny_bind ?_
  unfold newTuple
  refine wpAny_newObj_type ?_ (by show (2 : Nat) ≤ sizeLine; rw [sizeLine_eq]; decide)
  refine wpAny_pure ?_
  exact h _ _ _ _ _ (fun x o e2 => Heap.get?_push_of_some _ e2) (Heap.get?_push_size _ rfl)
end
end Mine
end

section
open PySem PySem.W PyProof.Rows PySem.Calls
set_option maxRecDepth 100000
namespace Mine
open PySem.Builtin PySem.Builtin.UnicodeEncodeError PySem.Builtin._codecs
theorem sub_tup : isSubtype (.type "tuple") (.type "tuple") = pure true := by rw [isSubtype_type]; kernel_rfl
theorem wp_asIndex {M : Model} {A : Around} {E : Value → Shared → Prop} {s : Shared} {i : Int} {t : Tok} {Q : Int → Shared → Prop} (h : Q i s) : wpAny M A (asIndex (.int i t)) Q E s := by
  obtain ⟨hp, g, d, tk, os⟩ := s
  unfold asIndex
  repeat (any_goals (first | assumption | wp_step))
abbrev rpH : Value := .builtin "_codecs.lookup_error.replace_errors"
section
variable {prog : Program} {w : World} {A : Around} {E : Value → Shared → Prop} {s : Shared} {e : Addr} {bs : Array UInt8} {a b c d f g en rs : Value} {tb v1 v2 : Tok} {id reason : String} {st sp : Nat}
theorem wp_fault1 {Q : Faults × Array Nat × Nat → Shared → Prop} (h1 : st < sp) (h2 : sp ≤ bs.size) (hb : bs.size ≤ sizeLine) (hr : (Str.ofString reason).length ≤ sizeLine)
    (h : ∀ h' e t tk t1 t2 t3, (∀ a o, s.heap.get? a = some o → h'.get? a = some o) → s.heap.get? e = none → h'.get? e = some (uxO [.ref t, .none, .none, .none, .bool false, .none, .str (Str.ofString "utf-8") t1, .bytes bs t2, rawInt st, rawInt sp, .str (Str.ofString reason) t3]) →
      Q ({ handler := some rpH, exc := some (.ref e), held := [] }, #[65533], sp) { s with heap := h', toks := tk }) :
    wpAny (model prog w) A (decodeFault id { held := [] } (some (Str.ofString "replace")) ["ignore", "replace", "surrogateescape"] "utf-8" bs st sp reason) Q E s := by
  obtain ⟨hp, gg, dd, tk, os⟩ := s
  unfold decodeFault
  refine wpAny_bind (wpAny_of_eq (a := rpH) (by kernel_rfl) ?_)
  refine wpAny_bind (wpAny_holding ?_)
  wp_delta
  refine wpAny_bind (wpAny_mkStr ?_ (by decide +kernel))
  refine wpAny_bind (wpAny_mkBytes ?_ hb)
  refine wpAny_bind (wpAny_mkInt ?_)
  refine wpAny_bind (wpAny_mkInt ?_)
  refine wpAny_bind (wpAny_mkStr ?_ hr)
  have h3 : (bs.size : Int) ≤ 16777216 := by rw [sizeLine_eq] at hb; omega
  refine ux_call (by omega) (by omega) (by omega) (by omega) fun h2' e t hk hn he => ?_
  dsimp only at hk hn he ⊢
  refine wpAny_bind ?_
  wp_delta
  refine wpAny_bind (wp_members he ?_)
  refine wpAny_bind (wpAny_holding (bm_if_true rfl ?_))
  refine handler_call he (by omega) (by omega) fun h3' r t1 t2 tk3 hk3 hr3 => ?_
  dsimp only at hk3 hr3 ⊢
  refine wpAny_bind (wp_members (hk3 _ _ he) ?_)
  refine bm_if_false (by show (!(_ == _ && _ == _)) = false; simp) ?_
  refine wpAny_pure ?_
  refine wpAny_holding ?_
  refine wpAny_bind ?_
  wp_delta
  refine wpAny_bind (wpAny_isInstance ⟨_, hr3, rfl⟩ sub_tup ?_)
  refine bm_if_false rfl ?_
  refine wpAny_bind (wpAny_seqItems hr3 rfl ?_)
  refine wpAny_pure ?_
  dsimp only
  refine wpAny_bind (wpAny_of_eq (a := some ⟨#[65533]⟩) rfl ?_)
  dsimp only
  refine wpAny_bind ?_
  wp_delta
  refine wpAny_bind (wp_asIndex ?_)
  dsimp only
  refine bm_if_false (by rw [Bool.or_eq_false_iff]; exact ⟨decide_eq_false (by omega), decide_eq_false (by omega)⟩) ?_
  refine wpAny_pure ?_
  refine wpAny_bind ?_
  wp_delta
  have ep : (if (sp : Int) < 0 then (sp : Int) + bs.size else sp) = sp := if_neg (by omega)
  simp only [ep]
  refine bm_if_false (by rw [Bool.or_eq_false_iff]; exact ⟨decide_eq_false (by omega), decide_eq_false (by omega)⟩) ?_
  refine wpAny_ite_false (decide_eq_false (by omega)) ?_
  refine wpAny_pure ?_
  refine wpAny_pure ?_
  rw [Int.toNat_natCast]
  exact h h3' e t tk3 _ _ _ (fun a o e1 => hk3 _ _ (hk _ _ e1)) hn (hk3 _ _ he)
theorem wp_fault2 {Q : Faults × Array Nat × Nat → Shared → Prop} {q1 q2 : Int} (he0 : s.heap.get? e = some (uxO [a, b, c, d, f, g, en, .bytes bs tb, .int q1 v1, .int q2 v2, rs])) (h1 : st < sp) (h2 : sp ≤ bs.size) (hb : bs.size ≤ sizeLine) (hr : (Str.ofString reason).length ≤ sizeLine)
    (h : ∀ h' tk t3, Kept e s.heap h' → h'.get? e = some (uxO [a, b, c, d, f, g, en, .bytes bs tb, rawInt st, rawInt sp, .str (Str.ofString reason) t3]) →
      Q ({ handler := some rpH, exc := some (.ref e), held := [] }, #[65533], sp) { s with heap := h', toks := tk }) :
    wpAny (model prog w) A (decodeFault id { handler := some rpH, exc := some (.ref e), held := [] } (some (Str.ofString "replace")) ["ignore", "replace", "surrogateescape"] "utf-8" bs st sp reason) Q E s := by
  obtain ⟨hp, gg, dd, tk, os⟩ := s
  unfold decodeFault
  refine wpAny_bind (wpAny_of_eq (a := rpH) rfl ?_)
  refine wpAny_bind (wpAny_holding ?_)
  wp_delta
  dsimp only
  refine wpAny_bind (wp_members he0 ?_)
  refine wpAny_bind (wpAny_mkStr ?_ hr)
  refine wpAny_bind (wp_setMembers he0 fun h2' hk he => ?_)
  refine wpAny_pure ?_
  dsimp only at hk he ⊢
  have h3 : (bs.size : Int) ≤ 16777216 := by rw [sizeLine_eq] at hb; omega
  refine wpAny_bind ?_
  wp_delta
  refine wpAny_bind (wp_members he ?_)
  refine wpAny_bind (wpAny_holding (bm_if_true rfl ?_))
  refine handler_call he (by omega) (by omega) fun h3' r t1 t2 tk3 hk3 hr3 => ?_
  dsimp only at hk3 hr3 ⊢
  refine wpAny_bind (wp_members (hk3 _ _ he) ?_)
  refine bm_if_false (by show (!(_ == _ && _ == _)) = false; simp) ?_
  refine wpAny_pure ?_
  refine wpAny_holding ?_
  refine wpAny_bind ?_
  wp_delta
  refine wpAny_bind (wpAny_isInstance ⟨_, hr3, rfl⟩ sub_tup ?_)
  refine bm_if_false rfl ?_
  refine wpAny_bind (wpAny_seqItems hr3 rfl ?_)
  refine wpAny_pure ?_
  dsimp only
  refine wpAny_bind (wpAny_of_eq (a := some ⟨#[65533]⟩) rfl ?_)
  dsimp only
  refine wpAny_bind ?_
  wp_delta
  refine wpAny_bind (wp_asIndex ?_)
  dsimp only
  refine bm_if_false (by rw [Bool.or_eq_false_iff]; exact ⟨decide_eq_false (by omega), decide_eq_false (by omega)⟩) ?_
  refine wpAny_pure ?_
  refine wpAny_bind ?_
  wp_delta
  have ep : (if (sp : Int) < 0 then (sp : Int) + bs.size else sp) = sp := if_neg (by omega)
  simp only [ep]
  refine bm_if_false (by rw [Bool.or_eq_false_iff]; exact ⟨decide_eq_false (by omega), decide_eq_false (by omega)⟩) ?_
  refine wpAny_ite_false (decide_eq_false (by omega)) ?_
  refine wpAny_pure ?_
  refine wpAny_pure ?_
  rw [Int.toNat_natCast]
  exact h h3' tk3 _ (fun a o ha e1 => hk3 _ _ (hk _ _ ha e1)) (hk3 _ _ he)
end
end Mine
end

section
open PySem PySem.W PyProof.Rows PySem.Calls
set_option maxRecDepth 100000
namespace Mine
open PySem.Builtin PySem.Builtin.UnicodeEncodeError PySem.Builtin._codecs
/-- the fault's state: none yet, or the one exception object -/
def StOk (b : Array UInt8) (h0 h : Heap) (st : Faults) : Prop :=
  st = { held := [] } ∨ ∃ (e : Addr) (a1 a2 a3 a4 a5 a6 en rs : Value) (tb v1 v2 : Tok) (q1 q2 : Int), st = { handler := some rpH, exc := some (.ref e), held := [] } ∧ h0.get? e = none ∧ h.get? e = some (uxO [a1, a2, a3, a4, a5, a6, en, .bytes b tb, .int q1 v1, .int q2 v2, rs])
def RunInv (b : Array UInt8) (s0 : Shared) (rest : List Nat) (x : Nat × Array Nat × Faults) (s : Shared) : Prop :=
  x.1 ≤ b.size ∧ b.size ≤ x.1 + rest.length ∧ x.2.1.size ≤ x.1 ∧ x.2.1.toList ++ decL ((nats b).drop x.1) = decL (nats b) ∧
  ∃ h tk, s = { s0 with heap := h, toks := tk } ∧ (∀ a o, s0.heap.get? a = some o → h.get? a = some o) ∧ StOk b s0.heap h x.2.2
section
variable {prog : Program} {w : World} {A : Around} {E : Value → Shared → Prop} {s : Shared} {b : Array UInt8} {id : String}
theorem wp_run {Q : Array Nat × Nat → Shared → Prop} (hb : b.size ≤ sizeLine)
    (h : ∀ h' tk out n, (∀ a o, s.heap.get? a = some o → h'.get? a = some o) → out.toList = decL (nats b) → Q (out, n) { s with heap := h', toks := tk }) :
    wpAny (model prog w) A (runDecoder id utf8Decoder (some (Str.ofString "replace")) true b 0 []) Q E s := by
  unfold runDecoder
  dsimp only
  rw [Std.Legacy.Range.forIn_eq_forIn_range']
  refine wpAny_bind (wpAny_forIn_list _ (RunInv b s) _ ?_ ?_ _ _ ?_)
  · rintro _ rest ⟨p, out, st⟩ s' ⟨hp, hl, ho, hE, h1, tk, rfl, hk, hst⟩
    dsimp only at hp hl ho hE hst ⊢
    refine wpAny_ite_false (decide_eq_false (by omega)) ?_
    by_cases hpe : b.size ≤ p
    · refine wpAny_ite_true (decide_eq_true hpe) (wpAny_pure ?_)
      dsimp only
      refine wpAny_pure (h _ _ _ _ hk ?_)
      rw [List.drop_eq_nil_iff.mpr (by simp only [List.length_map, Array.length_toList]; exact hpe), decL_nil, List.append_nil] at hE
      exact hE
    · refine wpAny_ite_false (decide_eq_false hpe) ?_
      have hL := look_at (b := b) (p := p) (by omega)
      simp only [List.length_cons] at hl
      unfold utf8Decoder
      dsimp only
      generalize Bytes.utf8At b p = r at hL
      cases hL with
      | char hn hle hd =>
        rename_i c next
        refine wpAny_pure ?_
        refine ⟨hle, by dsimp only; omega, ?_, ?_, h1, tk, rfl, hk, hst⟩
        · simp only [Array.size_append]
          show out.size + 1 ≤ next
          omega
        · rw [hd] at hE
          simp only [Array.toList_append, List.append_assoc]
          exact hE
      | bad hn hle hrl hd =>
        rename_i stop reason
        dsimp only
        refine bm_if_false (by simp) ?_
        refine wpAny_bind (wpAny_rule ?_)
        have hr2 : (Str.ofString reason).length ≤ sizeLine := by rw [sizeLine_eq]; omega
        have hsz : (out ++ #[65533]).size ≤ stop := by
          simp only [Array.size_append]
          show out.size + 1 ≤ stop
          omega
        have hE2 : (out ++ #[65533]).toList ++ decL ((nats b).drop stop) = decL (nats b) := by
          rw [hd] at hE
          simp only [Array.toList_append, List.append_assoc]
          exact hE
        rcases hst with rfl | ⟨e, a1, a2, a3, a4, a5, a6, en, rs, tb, v1, v2, q1, q2, rfl, hne, he⟩
        · refine wpAny_bind (wp_fault1 hn hle hb hr2 fun h2 e t tk2 t1 t2 t3 hk2 hn2 he2 => wpAny_pure ?_)
          refine ⟨hle, by dsimp only; omega, hsz, hE2, h2, tk2, rfl, fun a o e1 => hk2 _ _ (hk _ _ e1), .inr ⟨e, _, _, _, _, _, _, _, _, _, _, _, _, _, rfl, ?_, he2⟩⟩
          cases hc : s.heap.get? e with
          | none => rfl
          | some o =>
            have := hk _ _ hc
            dsimp only at hn2
            rw [hn2] at this
            cases this
        · refine wpAny_bind (wp_fault2 he hn hle hb hr2 fun h2 tk2 t3 hk2 he2 => wpAny_pure ?_)
          refine ⟨hle, by dsimp only; omega, hsz, hE2, h2, tk2, rfl, fun a o e1 => hk2 _ _ ?_ (hk _ _ e1), .inr ⟨e, _, _, _, _, _, _, _, _, _, _, _, _, _, rfl, hne, he2⟩⟩
          intro ea
          rw [ea, hne] at e1
          cases e1
  · rintro ⟨p, out, st⟩ s' ⟨hp, hl, ho, hE, h1, tk, rfl, hk, hst⟩
    dsimp only at hp hl ho hE hst ⊢
    refine wpAny_pure (h _ _ _ _ hk ?_)
    rw [List.drop_eq_nil_iff.mpr (by simp only [List.length_map, Array.length_toList]; simpa using hl), decL_nil, List.append_nil] at hE
    exact hE
  · refine ⟨Nat.zero_le _, ?_, Nat.zero_le _, rfl, s.heap, s.toks, rfl, fun _ _ e => e, .inl rfl⟩
    simp
end
theorem args_decode_3 (a b c : Value) : argsOk "bytes.decode" ⟨[a, b, c], []⟩ := by
  unfold argsOk; kernel_rfl
abbrev sUtf : Str := Str.ofString "utf-8"
abbrev sRep : Str := Str.ofString "replace"
theorem road2_eq {id : String} {b : Array UInt8} : decodeRoad id b sUtf (some sRep) [] = (runDecoder id utf8Decoder (some sRep) true b 0 [] >>= fun r => mkStr ⟨r.1⟩) := by kernel_rfl
theorem dec_entry {c : UInt8} {cs : List UInt8} {t t1 t2 : Tok} : «bytes.decode» ⟨[.bytes (c :: cs).toArray t, .str sUtf t1, .str sRep t2], []⟩ =
    (mkStr sUtf >>= fun _ => mkStr sUtf >>= fun e => mkStr sRep >>= fun r => mkStr (Str.ofString "bytes.decode") >>= fun d => call (.builtin "_codecs.decode.text") [.bytes (c :: cs).toArray t, e, r, d] >>= fun v => ret v) := by kernel_rfl
theorem dec_entry0 {t t1 t2 : Tok} : «bytes.decode» ⟨[.bytes ([] : List UInt8).toArray t, .str sUtf t1, .str sRep t2], []⟩ = (rule "bytes.decode.empty" >>= fun _ => retStr Str.empty) := by kernel_rfl
section
variable {prog : Program} {w : World} {A : Around} {E : Value → Shared → Prop} {s : Shared} {b : Array UInt8} {t t1 t2 t3 : Tok}
theorem wp_text {d : Str} {Q : Value → Shared → Prop} (hb : b.size ≤ sizeLine)
    (h : ∀ h' tk t' (y : Str), (∀ a o, s.heap.get? a = some o → h'.get? a = some o) → y.cps.toList = decL (nats b) → Q (.str y t') { s with heap := h', toks := tk }) :
    wpAny (model prog w) A (call (.builtin "_codecs.decode.text") [.bytes b t, .str sUtf t1, .str sRep t2, .str d t3]) Q E s := by
  refine call_function_meets KBd.kind_text KBd.plain_text KBd.entry_text (S := fun A' R' s' => R' = wants Q E ∧ s' = s) (KBd.args_text _ _ _ _) ?_ ⟨rfl, rfl⟩
  rintro prog' w' A' R' s' ⟨rfl, rfl⟩
  show wpAny _ _ (Bytes.bytesLike _ (.bytes b t) >>= fun r => _) _ _ s'
  refine wpAny_bind (wpAny_of_eq KBd.like_eq ?_)
  refine wpAny_bind (wpAny_of_eq KBd.held_eq ?_)
  show wpAny _ _ (decodeRoad _ b sUtf (some sRep) [] >>= fun v => _) _ _ s'
  rw [road2_eq]
  refine wpAny_bind (wpAny_bind (wp_run hb fun h' tk out n hk ho => ?_))
  refine wpAny_mkStr (wpAny_pure (h h' _ _ ⟨out⟩ hk ho)) ?_
  have hl := decL_len _ (nats b) (Nat.le_refl _)
  rw [← ho] at hl
  simp only [Array.length_toList, List.length_map] at hl
  exact Nat.le_trans hl hb
theorem decode2 {l : List UInt8} {Q : Value → Shared → Prop} (hb : l.length ≤ sizeLine)
    (h : ∀ h' tk t' (y : Str), (∀ a o, s.heap.get? a = some o → h'.get? a = some o) → y.cps.toList = decL (l.map (·.toNat)) → Q (.str y t') { s with heap := h', toks := tk }) :
    wpAny (model prog w) A (call (.builtin "bytes.decode") [.bytes l.toArray t, .str sUtf t1, .str sRep t2]) Q E s := by
  refine call_meets FB.slot_bytes_decode (S := fun A' R' s' => R' = wants Q E ∧ s' = s) (typeIs_bytes _ _ _) FB.entry_bytes_decode (args_decode_3 _ _ _) ?_ ⟨rfl, rfl⟩
  rintro prog' w' A' R' s' ⟨rfl, rfl⟩
  cases l with
  | nil =>
    rw [dec_entry0]
    refine wpAny_bind (wpAny_rule ?_)
    refine wpAny_bind (wpAny_mkStr ?_ (by decide +kernel))
    exact wpAny_pure (h _ _ _ _ (fun _ _ e => e) rfl)
  | cons c cs =>
    rw [dec_entry]
    refine wpAny_bind (wpAny_mkStr ?_ (by decide +kernel))
    refine wpAny_bind (wpAny_mkStr ?_ (by decide +kernel))
    refine wpAny_bind (wpAny_mkStr ?_ (by decide +kernel))
    refine wpAny_bind (wpAny_mkStr ?_ (by decide +kernel))
    refine wpAny_bind (wp_text (by rw [List.size_toArray]; exact hb) fun h' tk t' y hk hy => ?_)
    exact wpAny_pure (h _ _ _ _ hk hy)
end
end Mine
end

section
open PySem PySem.W PyProof.Rows PySem.Calls
namespace Mine
open PySem.Builtin PySem.Builtin.Str
theorem clip_idx (a b : Nat) (n : Nat) : strSliceIndices (some (a : Int)) (some (b : Int)) 1 n = strSliceIndices (some ((min a n : Nat) : Int)) (some ((min b n : Nat) : Int)) 1 n := by
  have h1 : ∀ i : Nat, max (0 : Int) (min (i : Int) n) = max 0 (min ((min i n : Nat) : Int) n) := fun i => by omega
  have h2 : ∀ i : Nat, ¬ (i : Int) < 0 := fun i => by omega
  unfold strSliceIndices
  simp only [h2, if_false, show ((1 : Int) > 0) by decide, if_true]
  rw [h1 a, h1 b]
theorem slice_nat (x : Str) {a b : Nat} (hab : a ≤ b) : (Txt.slice x (some (a : Int)) (some (b : Int))).cps.toList = (x.cps.toList.drop a).take (b - a) := by
  have e : Txt.slice x (some (a : Int)) (some (b : Int)) = StrLaws.sliceText x (some ((min a x.length : Nat) : Int)) (some ((min b x.length : Nat) : Int)) := by
    unfold Txt.slice StrLaws.sliceText
    rw [clip_idx]
  rw [e, StrLaws.sliceText_nat x (by omega) (by omega)]
  show (x.cps.toList.drop (min a x.length)).take (min b x.length - min a x.length) = _
  have hl : x.cps.toList.length = x.length := Array.length_toList
  by_cases h1 : b ≤ x.length
  · rw [Nat.min_eq_left h1, Nat.min_eq_left (by omega)]
  · by_cases h2 : a ≤ x.length
    · rw [Nat.min_eq_left h2, Nat.min_eq_right (by omega)]
      rw [List.take_of_length_le (by rw [List.length_drop]; omega), List.take_of_length_le (by rw [List.length_drop]; omega)]
    · rw [Nat.min_eq_right (by omega), Nat.min_eq_right (by omega)]
      rw [List.drop_eq_nil_iff.mpr (by omega), List.drop_eq_nil_iff.mpr (by omega)]
      simp
theorem slice_two (x : Str) (i : Nat) : (Txt.slice x (some ((i : Int) + 1)) (some ((i : Int) + 3))).cps.toList = (x.cps.toList.drop (i + 1)).take 2 := by
  have := slice_nat x (a := i + 1) (b := i + 3) (by omega)
  rw [show (((i + 1 : Nat) : Int)) = (i : Int) + 1 by omega, show (((i + 3 : Nat) : Int)) = (i : Int) + 3 by omega] at this
  rw [this, show i + 3 - (i + 1) = 2 by omega]
abbrev HX : Str := Str.ofString "0123456789abcdefABCDEF"
theorem hx_list : HX.cps.toList = [48,49,50,51,52,53,54,55,56,57,97,98,99,100,101,102,65,66,67,68,69,70] := by decide +kernel
theorem hx_mem (c : Nat) : c ∈ HX.cps.toList ↔ (hexv c).isSome = true := by
  rw [hx_list]
  unfold hexv
  simp only [List.mem_cons, List.not_mem_nil, or_false]
  constructor
  · intro h
    split
    · rfl
    · split
      · rfl
      · split
        · rfl
        · omega
  · intro h
    split at h
    · omega
    · split at h
      · omega
      · split at h
        · omega
        · cases h
section
variable {x : Str} {i : Nat}
theorem slice_is (h : (((Txt.slice x (some ((i : Int) + 1)) (some ((i : Int) + 3))).length : Nat) : Int) = 2) :
    ∃ a b, x.cps.toList[i + 1]? = some a ∧ x.cps.toList[i + 2]? = some b ∧ Txt.slice x (some ((i : Int) + 1)) (some ((i : Int) + 3)) = ⟨#[a, b]⟩ := by
  have hs := slice_two x i
  generalize Txt.slice x (some ((i : Int) + 1)) (some ((i : Int) + 3)) = y at h hs
  have hl : y.cps.toList.length = y.length := Array.length_toList
  rw [hs, List.length_take, List.length_drop] at hl
  have h1 : i + 1 < x.cps.toList.length := by omega
  have h2 : i + 2 < x.cps.toList.length := by omega
  refine ⟨x.cps.toList[i + 1], x.cps.toList[i + 2], List.getElem?_eq_getElem h1, List.getElem?_eq_getElem h2, str_eq ?_⟩
  have e1 := List.drop_eq_getElem_cons h1
  have e2 := List.drop_eq_getElem_cons h2
  have e3 : x.cps.toList.drop (i + 1) = x.cps.toList[i + 1] :: (x.cps.toList[i + 2] :: x.cps.toList.drop (i + 2 + 1)) := e1.trans (congrArg _ e2)
  rw [hs, e3]
  rfl
theorem slice_not (h : (((Txt.slice x (some ((i : Int) + 1)) (some ((i : Int) + 3))).length : Nat) : Int) ≠ 2) : figF x.cps.toList (i + 2) < 0 := by
  have hs := slice_two x i
  generalize Txt.slice x (some ((i : Int) + 1)) (some ((i : Int) + 3)) = y at h hs
  have hl : y.cps.toList.length = y.length := Array.length_toList
  rw [hs, List.length_take, List.length_drop] at hl
  rw [figF_none (List.getElem?_eq_none (by omega))]
  omega
theorem fig_of {t : List Nat} {i c v : Nat} (h : t[i]? = some c) (hv : hexv c = some v) : figF t i = v := by
  unfold figF; rw [h]; dsimp only; rw [hv]
theorem fig_of_none {t : List Nat} {i c : Nat} (h : t[i]? = some c) (hv : hexv c = none) : figF t i = -1 := by
  unfold figF; rw [h]; dsimp only; rw [hv]
theorem occ_hex (c : Nat) : (!(occurrences HX ⟨#[c]⟩ 0 HX.length 1).isEmpty) = (hexv c).isSome := by
  rw [StrLaws.found_one, Bool.eq_iff_iff, decide_eq_true_eq, hx_mem]
theorem it0 (a b : Nat) : Txt.item ⟨#[a, b]⟩ 0 = ⟨#[a]⟩ := item_at (by decide) rfl
theorem it1 (a b : Nat) : Txt.item ⟨#[a, b]⟩ 1 = ⟨#[b]⟩ := item_at (by decide) rfl
theorem uq_no0 (h : (((Txt.slice x (some ((i : Int) + 1)) (some ((i : Int) + 3))).length : Nat) : Int) = 2)
    (hA : (occurrences HX (Txt.item (Txt.slice x (some ((i : Int) + 1)) (some ((i : Int) + 3))) 0) 0 HX.length 1).isEmpty = true) : figF x.cps.toList (i + 1) < 0 := by
  obtain ⟨a, b, h1, h2, e⟩ := slice_is h
  rw [e, it0] at hA
  have := occ_hex a
  rw [hA] at this
  rw [fig_of_none h1 (by simpa using this.symm)]
  omega
theorem uq_no1 (h : (((Txt.slice x (some ((i : Int) + 1)) (some ((i : Int) + 3))).length : Nat) : Int) = 2)
    (hA : (occurrences HX (Txt.item (Txt.slice x (some ((i : Int) + 1)) (some ((i : Int) + 3))) 1) 0 HX.length 1).isEmpty = true) : figF x.cps.toList (i + 2) < 0 := by
  obtain ⟨a, b, h1, h2, e⟩ := slice_is h
  rw [e, it1] at hA
  have := occ_hex b
  rw [hA] at this
  rw [fig_of_none h2 (by simpa using this.symm)]
  omega
theorem uq_yes (h : (((Txt.slice x (some ((i : Int) + 1)) (some ((i : Int) + 3))).length : Nat) : Int) = 2)
    (hA : (occurrences HX (Txt.item (Txt.slice x (some ((i : Int) + 1)) (some ((i : Int) + 3))) 0) 0 HX.length 1).isEmpty = false)
    (hB : (occurrences HX (Txt.item (Txt.slice x (some ((i : Int) + 1)) (some ((i : Int) + 3))) 1) 0 HX.length 1).isEmpty = false) :
    ∃ a b va vb, Txt.slice x (some ((i : Int) + 1)) (some ((i : Int) + 3)) = ⟨#[a, b]⟩ ∧ hexv a = some va ∧ hexv b = some vb ∧ figF x.cps.toList (i + 1) = va ∧ figF x.cps.toList (i + 2) = vb := by
  obtain ⟨a, b, h1, h2, e⟩ := slice_is h
  rw [e, it0] at hA
  rw [e, it1] at hB
  have ha := occ_hex a
  have hb := occ_hex b
  rw [hA] at ha
  rw [hB] at hb
  obtain ⟨va, hva⟩ := Option.isSome_iff_exists.mp (by simpa using ha.symm)
  obtain ⟨vb, hvb⟩ := Option.isSome_iff_exists.mp (by simpa using hb.symm)
  exact ⟨a, b, va, vb, e, hva, hvb, fig_of h1 hva, fig_of h2 hvb⟩
end
section
variable {prog : Program} {w : World} {A : Around} {E : Value → Shared → Prop} {s : Shared} {Q : Value → Shared → Prop} {x : Str} {t t2 : Tok}
theorem call_hex_slice {i : Nat} (h : (((Txt.slice x (some ((i : Int) + 1)) (some ((i : Int) + 3))).length : Nat) : Int) = 2)
    (hA : (occurrences HX (Txt.item (Txt.slice x (some ((i : Int) + 1)) (some ((i : Int) + 3))) 0) 0 HX.length 1).isEmpty = false)
    (hB : (occurrences HX (Txt.item (Txt.slice x (some ((i : Int) + 1)) (some ((i : Int) + 3))) 1) 0 HX.length 1).isEmpty = false)
    (hq : ∀ k : Int, k = figF x.cps.toList (i + 1) * 16 + figF x.cps.toList (i + 2) → 0 ≤ figF x.cps.toList (i + 1) → 0 ≤ figF x.cps.toList (i + 2) → Q (.int k s.toks) { s with toks := s.toks + 1 }) :
    wpAny (model prog w) A (call (.type "int") [.str (Txt.slice x (some ((i : Int) + 1)) (some ((i : Int) + 3))) t, .int 16 t2]) Q E s := by
  obtain ⟨a, b, va, vb, e, ha, hb, fa, fb⟩ := uq_yes h hA hB
  rw [e]
  exact call_hex ha hb (hq _ (by rw [fa, fb]; omega) (by omega) (by omega))
theorem surr_ok {c : Nat} (h : Okc c) : Str.isSurrogate c = false := by
  unfold Okc at h
  unfold Str.isSurrogate
  rw [Bool.and_eq_false_iff]
  by_cases h1 : 55296 ≤ c
  · exact .inr (decide_eq_false (by omega))
  · exact .inl (decide_eq_false h1)
theorem call_encode_item {i : Int} (hg : GoodT x) (h0 : 0 ≤ i) (h1 : i < (x.length : Int)) (hq : ∀ t' k, Q (.bytes (Str.utf8Of ((Txt.item x i).cps.getD 0 0)).toArray t') { s with toks := k }) :
    wpAny (model prog w) A (call (.builtin "str.encode") [.str (Txt.item x i) t, .str (Str.ofString "utf-8") t2]) Q E s := by
  obtain ⟨c, hc, e⟩ := item_get (x := x) h0 (by omega)
  rw [e] at hq ⊢
  exact call_encode (surr_ok (hg c (List.mem_of_getElem? hc))) hq
theorem bints_u8 {c : Nat} (h : c < 1114112) : KBw.bInts (Str.utf8Of c).toArray = zs (u8 c) := by
  rw [KBw.ints_list]
  exact u8_bytes h
theorem utf8_len (c : Nat) : (Str.utf8Of c).toArray.size ≤ 4 := by
  rw [List.size_toArray]
  unfold Str.utf8Of
  (repeat' split) <;> simp
theorem zs_in {l : List Nat} (h : ∀ o ∈ l, o < 256) : KBa.In (zs l) := by
  intro n hn
  obtain ⟨o, ho, rfl⟩ := List.mem_map.mp hn
  have := h o ho
  omega
theorem byteArr_nats {l : List Nat} (h : ∀ o ∈ l, o < 256) : ((zs l).map fun n => n.toNat.toUInt8).map (·.toNat) = l := by
  simp only [zs, List.map_map]
  refine (List.map_congr_left (g := _root_.id) fun o ho => ?_).trans (List.map_id _)
  have := h o ho
  show (UInt8.ofNat (o : Int).toNat).toNat = o
  rw [Int.toNat_natCast, UInt8.toNat_ofNat']
  omega
theorem decode_K {h₀ : Heap} {L : Addr} {m : Str → Option Value} {news : List (Addr × Obj)} {l : List Nat} {t1 : Tok} (F : Fr h₀ L s.heap m) (N : News h₀ L s.heap news) (hl : ∀ o ∈ l, o < 256) (hz : l.length ≤ 16777216)
    (h : ∀ h' tk t' (y : Str), Fr h₀ L h' m → News h₀ L h' news → y.cps.toList = decL l → Q (.str y t') { s with heap := h', toks := tk }) :
    wpAny (model prog w) A (call (.builtin "bytes.decode") [.bytes (byteArr (zs l)) t, .str (Str.ofString "utf-8") t1, .str (Str.ofString "replace") t2]) Q E s := by
  unfold byteArr
  refine decode2 (by rw [List.length_map]; simp only [zs, List.length_map]; rw [sizeLine_eq]; exact hz) fun h' tk t' y hk hy => ?_
  rw [byteArr_nats hl] at hy
  exact h h' tk t' y (F.keptAll hk) (N.grown hk) hy
end
section
variable {x : Str} {i : Nat} {acc : List Nat} {us ws : List Value}
theorem uq_end_no (hE : acc ++ rowL (x.cps.toList.drop i) = rowL x.cps.toList) (h1 : (i : Int) < x.length) (hal : acc.length ≤ 4 * i)
    (g : (Txt.item x i == Str.ofString "%") = false ∨ figF x.cps.toList (i + 1) < 0 ∨ figF x.cps.toList (i + 2) < 0) :
    (acc ++ u8 ((Txt.item x i).cps.getD 0 0)) ++ rowL (x.cps.toList.drop (i + 1)) = rowL x.cps.toList ∧ i + 1 ≤ x.length ∧ (acc ++ u8 ((Txt.item x i).cps.getD 0 0)).length ≤ 4 * (i + 1) := by
  have a1 : ((i : Int) + 1).toNat = i + 1 := by omega
  have a2 : ((i : Int) + 2).toNat = i + 2 := by omega
  refine rs_no hE h1 (k1 := figF x.cps.toList (i + 1)) (k2 := figF x.cps.toList (i + 2)) (by rw [a1]) (by rw [a2]) ?_ hal
  rcases g with g | g | g
  · exact .inl g
  · exact .inr (.inl (by omega))
  · exact .inr (.inr (by omega))
theorem uq_end_yes {k : Int} (hE : acc ++ rowL (x.cps.toList.drop i) = rowL x.cps.toList) (h1 : (i : Int) < x.length) (hal : acc.length ≤ 4 * i)
    (hp : (Txt.item x i == Str.ofString "%") = true) (hk : k = figF x.cps.toList (i + 1) * 16 + figF x.cps.toList (i + 2)) (g1 : 0 ≤ figF x.cps.toList (i + 1)) (g2 : 0 ≤ figF x.cps.toList (i + 2)) :
    (acc ++ [k.toNat]) ++ rowL (x.cps.toList.drop (i + 3)) = rowL x.cps.toList ∧ i + 3 ≤ x.length ∧ (acc ++ [k.toNat]).length ≤ 4 * (i + 3) := by
  have a1 : ((i : Int) + 1).toNat = i + 1 := by omega
  have a2 : ((i : Int) + 2).toNat = i + 2 := by omega
  rw [hk]
  exact rs_yes hE h1 hp (by rw [a1]) (by rw [a2]) g1 g2 hal
theorem uq_ints {c : Nat} (h : IntsAre us (zs acc)) (h2 : IntsAre ws (KBw.bInts (Str.utf8Of c).toArray)) (hc : c < 1114112) : IntsAre (us ++ ws) (zs (acc ++ u8 c)) := by
  rw [bints_u8 hc] at h2
  exact ints_cat (ints_append h h2)
end
end Mine
end

section
open PySem PySem.W PyProof.Rows
namespace Mine
theorem ext_sz {us : List Value} {acc : List Nat} {i c : Nat} (h : IntsAre us (zs acc)) (h1 : acc.length ≤ 4 * i) (h2 : i ≤ 100000) : us.length + (Str.utf8Of c).toArray.size ≤ sizeLine := by
  have := utf8_len c
  have hl := h.length
  simp only [zs, List.length_map] at hl
  rw [sizeLine_eq]
  omega
theorem allLt_back {h₀ h : Heap} {L l : Addr} {o : Obj} {rest : List (Addr × Obj)} (hh : ∀ p ∈ rest, p.1 < l) (_ : News h₀ L h ((l, o) :: rest)) : ∀ q ∈ rest, q.1 ≠ l := fun q hq => Nat.ne_of_lt (hh q hq)
structure US where
  us : List Value
  n : Nat
  acc : List Nat
  i : Nat
  ti : Tok
section
local macro_rules | `(tactic| k_all) => `(tactic| assumption)
local macro_rules | `(tactic| walk_at "exec While Compare cons nil") => `(tactic| k_extra "unquote while")
local macro_rules | `(tactic| walk_at "getMethod str") => `(tactic| (k_here; (with_reducible show wpAny _ _ (getMethod (Value.str _ _) (Str.ofString "encode") _) _ _ _); (refine method_encode ?_)))
local macro_rules | `(tactic| walk_at "call builtin:str.encode") => `(tactic| (k_here; k_dflt (refine' call_encode_item ?k1 ?k2 ?k3 ?_; (case k1 => assumption); (case k2 => omega); (case k3 => omega); k_whole); intro t' k'))
local macro_rules | `(tactic| walk_at "call type:int") => `(tactic| (k_here; k_dflt (refine' call_hex_slice ?k1 ?k2 ?k3 ?_; (case k1 => assumption); (case k2 => assumption); (case k3 => assumption); k_whole); intro k' hk' hk1' hk2'))
local macro_rules | `(tactic| walk_at "call builtin:list.extend") => `(tactic| (k_here; k_dflt (refine' extend_K ?k1 ?k2 ?k3 ?k4 ?k5 ?_; (case k1 => k_asm); (case k2 => k_asm); (case k3 => k_all); (case k4 => rfl); (case k5 => exact ext_sz (by assumption) (by omega) (by omega)); k_whole); intro h' tk' ws' n' F' N' hw'))
local macro_rules | `(tactic| walk_at "call type:bytes") => `(tactic| (k_here; (with_reducible show wpAny _ _ (call (Value.type "bytes") [Value.ref _]) _ _ _); k_dflt (refine' KBa.make_K ?k1 ?k2 ?k3 ?k4 ?k5 ?k6 ?k7 ?_; (case k5 => assumption); (case k1 => k_asm); (case k2 => k_asm); (case k3 => rfl); (case k4 => is_list); (case k6 => exact zs_in (by assumption)); (case k7 => ((simp only [zs, List.length_map]); omega)); k_whole); intro h' t' tk' F' N' _))
local macro_rules | `(tactic| walk_at "call builtin:bytes.decode") => `(tactic| (k_here; k_dflt (refine' decode_K ?k1 ?k2 ?k3 ?k4 ?_; (case k1 => k_asm); (case k2 => k_asm); (case k3 => assumption); (case k4 => omega); k_whole); intro h' tk' t' y' F' N' hy'))
variable {prog : Program} {w : World} {pp : Program} {loose : List Str} {mean : ExcName → Option Value} {mg mb : Str → Option Value} {dp un : Nat} {gd : Option (List Code)} {cn : Str} {cs : Scope} {a : Addr} {ccd : Value} {cl : List (Str × Addr)} {outer : List Env} {A₀ : Around} {base h₀ : Heap} {L : Addr} {m : Str → Option Value} {s : Shared} {Q E : Value → Shared → Prop}
    {news : List (Addr × Obj)} {x : Str} {t : Tok}
set_option maxRecDepth 100000 in
set_option maxHeartbeats 8000000 in
theorem unquote_spec 
    (B : Below A₀ base outer h₀) (F : Fr h₀ L s.heap m) (X : (Mine.hd.heap_39 w.params).In h₀) (N : News h₀ L s.heap news) (T : Top pp loose mean mg mb h₀) (hk : cs.kind = .function)
    (hx : x.length ≤ 100000) (hg : GoodT x)
    (hd : dp + 3 < recursionLimit) (hu : un + 24 < cLine)
    (hret : ∀ (y : Str) (t : Tok) (h' : Heap) (tk' : Nat), Fr h₀ L h' m → News h₀ L h' news → y.cps.toList = rd x.cps.toList → 
      Q (.str y t) { s with heap := h', toks := tk' }) :
    wpAny (model prog w) (ktrTop dp un gd cn cs L a ccd cl outer) (call (.ref 53) [.str x t]) Q E s := by
  refine wpAny_call ?_
  k_dflt cell_enter
  have hrow9 : ∀ o ∈ rowL x.cps.toList, o < 256 := rowL_lt _ _ (Nat.le_refl _) hg
  have hrl9 : (rowL x.cps.toList).length ≤ 400000 := by
    have h1 := rowL_len _ x.cps.toList (Nat.le_refl _)
    have h2 : x.cps.toList.length = x.length := Array.length_toList
    omega
  (k_with "unquote while" => (
    rename Fr _ _ _ _ => lF
    rename News _ _ _ ((_, _) :: _) => lN
    have hl1 := allLt_back (by assumption) lN
    with_unfolding_all refine' kx_while (σ := US) (fun c => (_, listOf c.us.toArray c.n) :: news) (fun c => [(Str.ofString "place", .int c.i c.ti)]) (fun c => IntsAre c.us (zs c.acc)) [Str.ofString "pair"] (fun c => c.acc ++ rowL (x.cps.toList.drop c.i) = rowL x.cps.toList ∧ c.i ≤ x.length ∧ c.acc.length ≤ 4 * c.i) (fun c => x.length - c.i) (fun c => ¬ (c.i : Int) < x.length) ⟨[], _, [], 0, _⟩ lF lN ints_nil ?kk ?kp ?kturn ?kdone (by passes_own)
    case kk => kst_all
    case kp => exact ⟨rfl, Nat.zero_le _, Nat.zero_le _⟩
    clear lF lN
    case' kturn =>
      intro c u h2 tk2 hus hP F2 N2
      obtain ⟨us, n, acc, i, ti⟩ := c
      obtain ⟨hE, hil, hal⟩ := hP
      dsimp only [kstB] at hE hil hal hus F2 N2
      try k_fold
    case' kdone =>
      intro c u h2 tk2 hus hP hX F2 N2
      obtain ⟨us, n, acc, i, ti⟩ := c
      obtain ⟨hE, hil, hal⟩ := hP
      dsimp only [kstB] at hE hil hal hus hX F2 N2
      have hrow := rs_done hE hX
      subst hrow
      try k_fold))
  k_steps
  · rename News h₀ _ _ _ => N9
    exact hret _ _ _ _ (by assumption) (fun p hp => N9 p (.tail _ hp)) (by assumption)
  · rename Fr _ _ _ _ => F9
    rename News _ _ _ _ => N9
    exact ksw_end (⟨_, _, acc ++ u8 _, i + 1, _⟩ : US) F9 N9 (by kst_in) (uq_ints hus (by assumption) (item_ok hg (by omega))) (by kst_all) (by ksw_same) (uq_end_no hE (by assumption) hal (.inr (.inl (uq_no0 (by assumption) (by assumption))))) (by dsimp only; omega)
  · rename Fr _ _ _ _ => F9
    rename News _ _ _ _ => N9
    exact ksw_end (⟨_, _, acc ++ u8 _, i + 1, _⟩ : US) F9 N9 (by kst_in) (uq_ints hus (by assumption) (item_ok hg (by omega))) (by kst_all) (by ksw_same) (uq_end_no hE (by assumption) hal (.inr (.inr (uq_no1 (by assumption) (by assumption))))) (by dsimp only; omega)
  · rename Fr _ _ _ _ => F9
    rename News _ _ _ _ => N9
    simp only [List.push_toArray] at N9
    exact ksw_end (⟨us ++ [_], _, acc ++ [_], i + 3, _⟩ : US) F9 N9 (by kst_in) (ints_snoc hus (by omega)) (by kst_all) (by ksw_same) (uq_end_yes hE (by assumption) hal (by assumption) (by assumption) (by assumption) (by assumption)) (by dsimp only; omega)
  · rename Fr _ _ _ _ => F9
    rename News _ _ _ _ => N9
    exact ksw_end (⟨_, _, acc ++ u8 _, i + 1, _⟩ : US) F9 N9 (by kst_in) (uq_ints hus (by assumption) (item_ok hg (by omega))) (by kst_all) (by ksw_same) (uq_end_no hE (by assumption) hal (.inr (.inr (slice_not (by assumption))))) (by dsimp only; omega)
  · rename Fr _ _ _ _ => F9
    rename News _ _ _ _ => N9
    exact ksw_end (⟨_, _, acc ++ u8 _, i + 1, _⟩ : US) F9 N9 (by kst_in) (uq_ints hus (by assumption) (item_ok hg (by omega))) (by kst_all) (by ksw_same) (uq_end_no hE (by assumption) hal (.inl (by assumption))) (by dsimp only; omega)
  · rename News _ _ _ _ => N9
    exact kx_exit (by assumption) (by assumption) N9
end
end Mine
end

section
open PySem PySem.W PyProof.Rows
namespace Mine
structure UuS where
  y : Str
  ty : Tok
theorem news_left' {h₀ h : Heap} {L : Addr} {r q : List (Addr × Obj)} (N : News h₀ L h (r ++ q)) : News h₀ L h r := fun p hp => N p (List.mem_append_left _ hp)
section
local macro_rules | `(tactic| k_all) => `(tactic| assumption)
local macro_rules | `(tactic| walk_at "pyIter ref") => `(tactic| ((with_reducible show wpAny _ _ (pyIter (Value.ref _)) (fun it s₂ => LoopAtV _ _ _ _ _ _ _ _ _ it s₂) _ _); k_extra "url loop"))
local macro_rules | `(tactic| walk_at "exec For Name Call cons nil") => `(tactic| (k_here; (rename Fr _ _ _ _ => lF'); (with_unfolding_all refine' For_invVF lF' ?k1 ?k2 ?_; (case k1 => exact rfl); (case k2 => exact rfl); k_whole)))
local macro_rules | `(tactic| walk_at "call ref") => `(tactic| (k_here; (with_reducible show wpAny _ _ (call (Value.ref 53) _ _) _ _ _); k_dflt (refine' unquote_spec ?k1 ?k2 ?k3 ?k4 ?k5 ?k6 ?k7 ?k8 ?k9 ?k10 ?_; (case k1 => k_asm); (case k2 => k_asm); (case k3 => k_asm); (case k4 => k_asm); (case k5 => k_asm); (case k6 => first | rfl | assumption); (case k7 => omega); (case k8 => assumption); (case k9 => ktr_room); (case k10 => ktr_units); k_whole); intro y' t' h' tk' F' N' hy'; (have hgy' := good_rd hy'); (have hly' := len_rd hy')))
variable {prog : Program} {w : World} {pp : Program} {loose : List Str} {mean : ExcName → Option Value} {mg mb : Str → Option Value} {dp un : Nat} {gd : Option (List Code)} {cn : Str} {cs : Scope} {a : Addr} {ccd : Value} {cl : List (Str × Addr)} {outer : List Env} {A₀ : Around} {base h₀ : Heap} {L : Addr} {m : Str → Option Value} {s : Shared} {Q E : Value → Shared → Prop}
    {news : List (Addr × Obj)} {x : Str} {t : Tok}
set_option maxRecDepth 100000 in
set_option maxHeartbeats 8000000 in
theorem url_spec 
    (B : Below A₀ base outer h₀) (F : Fr h₀ L s.heap m) (X : (Mine.hd.heap_39 w.params).In h₀) (N : News h₀ L s.heap news) (T : Top pp loose mean mg mb h₀) (hk : cs.kind = .function)
    (hx : x.length ≤ 1000) (hg : GoodT x)
    (hd : dp + 4 < recursionLimit) (hu : un + 32 < cLine)
    (hret : ∀ (y : Str) (t : Tok) (h' : Heap) (tk' : Nat), Fr h₀ L h' m → News h₀ L h' news → y.cps.toList = rounds 3 x.cps.toList → 
      Q (.str y t) { s with heap := h', toks := tk' }) :
    wpAny (model prog w) (ktrTop dp un gd cn cs L a ccd cl outer) (call (.ref 389) [.str x t]) Q E s := by
  refine wpAny_call ?_
  k_dflt cell_enter
  (k_with "url loop" => (
    rename Fr _ _ _ _ => lF
    rename News _ _ _ _ => lN
    rename IsRange _ _ _ _ _ _ _ _ => rgX
    with_unfolding_all refine' kst_range (σ := UuS) (n := 3) (fun _ => news) (fun c => [(Str.ofString "url", .str c.y c.ty)]) (fun _ => True) [Str.ofString "decoded"] (fun pre c => rounds (3 - pre.length) c.y.cps.toList = rounds 3 x.cps.toList ∧ GoodT c.y ∧ c.y.length ≤ 4 ^ pre.length * 1000) ⟨x, _⟩ (by rfl) rgX (by decide) (by rfl) lF ?kn True.intro ?kk ?kp ?kturn ?kdone
    case kn => with_unfolding_all exact lN
    case kk => kst_all
    case kp => exact ⟨rfl, hg, by simpa using hx⟩
    clear lF lN
    case' kturn =>
      intro c pre k t u h2 tk2 own hkk hpl hoff2 _ hP F2 N2
      obtain ⟨y, ty⟩ := c
      obtain ⟨hR, hgy, hly⟩ := hP
      dsimp only [kstB] at hR hgy hly F2 N2
      have hly2 : y.length ≤ 16000 := Nat.le_trans hly (by
        have h4 : 4 ^ pre.length ≤ 4 ^ 2 := Nat.pow_le_pow_right (by decide) (by omega)
        omega)
      try dsimp only
      show wpAny _ _ _ _ _ _
      try k_fold
    case' kdone =>
      intro c u h2 tk2 _ hP F2 N2
      obtain ⟨y, ty⟩ := c
      obtain ⟨hR, hgy, hly⟩ := hP
      dsimp only [kstB] at hR hgy hly F2 N2
      try k_fold))
  k_steps
  · exact hret _ _ _ _ (by assumption) (by assumption) (by simpa only [rangeKs_length, Nat.sub_self, rounds] using hR)
  · exact hret _ _ _ _ (by assumption) (news_left' (by assumption)) ((rounds_stop' (by omega) (by assumption) (by assumption)).trans hR)
  · rename Fr _ _ _ _ => F9
    rename News _ _ _ _ => N9
    exact kst_end (⟨_, _⟩ : UuS) F9 N9 (fun q hq => List.mem_append_left _ hq) (fun q hq => List.mem_append_right _ hq) (by rfl) True.intro (by kst_all) (by kst_same) (by
      simp only [List.length_append, List.length_cons, List.length_nil]
      exact ⟨(rounds_go' hpl (by assumption) (by assumption)).trans hR, by assumption, len_go (by assumption) hly⟩)
end
end Mine
end

section
open PySem PySem.W PyProof.Rows PySem.Calls
namespace Mine
section
variable {M : Model} {A : Around} {E : Value → Shared → Prop} {s : Shared} {K : Frag} {h₀ : Heap} {L a : Addr} {m mg mb : Str → Option Value} {cn : Str} {cs : Scope} {ccd : Value} {cl : List (Str × Addr)} {p : Program} {loose : List Str} {x : Str} {pos : Pos} {v : Value} {Q : Value → Shared → Prop}
theorem nameX_K (F : Fr h₀ L s.heap m) (X : K.In h₀) (T : TopRead p loose mg mb h₀) (e : nsIn K mainGlobals x = some (some v)) (h : Q v s)
    (hk : cs.kind = .function) (hx : (envX cn cs L a ccd cl).kindOf x = some .globalImplicit) (hd : (x == ("__debug__" : Str)) = false) :
    wpAny M A (eval (.Name x pos) (envX cn cs L a ccd cl)) Q E s :=
  Calls.Name_function_global hk hx (Calls.loadGlobal_global (env := envX cn cs L a ccd cl) (T.g.keeps F.keep) (mg_of X T.g e) h) hd
theorem nameX_B (F : Fr h₀ L s.heap m) (X : K.In h₀) (T : TopRead p loose mg mb h₀) (e : nsIn K mainGlobals x = some none) (hv : bootBuiltins x = some v) (hn : x ≠ "__name__") (h : Q v s)
    (hk : cs.kind = .function) (hx : (envX cn cs L a ccd cl).kindOf x = some .globalImplicit) (hd : (x == ("__debug__" : Str)) = false) :
    wpAny M A (eval (.Name x pos) (envX cn cs L a ccd cl)) Q E s :=
  Calls.Name_function_global hk hx (Calls.loadGlobal_builtin (env := envX cn cs L a ccd cl) (T.g.keeps F.keep) (mg_none_of X T.g e) (T.b.keeps F.keep) ((T.builtins x hn).trans hv) h) hd
end
section
variable {prog : Program} {w : World} {A : Around} {E : Value → Shared → Prop} {s : Shared} {h₀ : Heap} {L : Addr} {m : Str → Option Value} {news : List (Addr × Obj)} {K : Frag} {x C D : Addr} {ox : Obj} {odx : Option Obj} {cdD : ClassData} {Q : Value → Shared → Prop}
theorem super_two (F : Fr h₀ L s.heap m) (X₀ : K.In h₀) (N : News h₀ L s.heap news) (I : InstAt s.heap x ox C odx) (hD : clsIn K D = some cdD) (hsub : mroIn K C (.ref D) = some true)
    (h : ∀ so h', Fr h₀ L h' m → News h₀ L h' ((so, ks_superObj D x C) :: news) → (∀ p ∈ news, p.1 < so) → Q (.ref so) { s with heap := h' }) :
    wpAny (model prog w) A (call (.type "super") [.ref D, .ref x]) Q E s := by
  have X : K.In s.heap := X₀.keeps F.keep
  obtain ⟨hh, g, d, t, os⟩ := s
  obtain ⟨oD, hD1, hD2⟩ : ∃ oD, hh.get? D = some oD ∧ oD.data = .cls cdD := by
    unfold clsIn at hD
    split at hD
    · rename_i c d cd' sl ho
      cases hD
      exact ⟨_, X _ _ ho, rfl⟩
    · cases hD
  refine ks_wpAny_call_super hD1 hD2 I.at_ I.cls (fun c e => ?_) (looks_mroIn X hsub) (fun h' e k => ?_)
  · have := I.no
    unfold notCls at this
    rw [e] at this
    exact Bool.noConfusion this
  · obtain ⟨F', N', l'⟩ := ks_newsPush (s := ⟨hh, g, d, t, os⟩) F N rfl e k
    exact h _ _ F' N' l'
end
end Mine
end

section
open PySem PySem.W PyProof.Rows
namespace Mine
abbrev rEnts (w : World) (md : Addr) (t1 t2 t3 : Tok) : List DictEntry := [⟨PyData.keyHash w.params (Str.ofString "_BaseRenderer__methods"), .str (Str.ofString "_BaseRenderer__methods") t1, .ref md⟩, ⟨PyData.keyHash w.params (Str.ofString "_allow_harmful_protocols"), .str (Str.ofString "_allow_harmful_protocols") t2, .none⟩, ⟨PyData.keyHash w.params (Str.ofString "_escape"), .str (Str.ofString "_escape") t3, .bool true⟩]
theorem news_four {h₀ h : Heap} {L : Addr} {x y z : Addr × Obj} {r : List (Addr × Obj)} (N : News h₀ L h (x :: y :: z :: r)) : News h₀ L h r := fun p hp => N p (.tail _ (.tail _ (.tail _ hp)))
section
local macro_rules | `(tactic| k_all) => `(tactic| assumption)
local macro_rules | `(tactic| walk_at "eval Name") => `(tactic| (k_here; (with_reducible show wpAny _ _ (eval (Expr.Name _ _) (envX _ _ _ _ _ [_])) _ _ _); (with_reducible rename Fr _ _ _ _ => kF); k_dflt (refine' nameX_K kF ?k1 ?k2 ?k3 ?_ ?k4 ?k5 ?k6; (case k1 => k_asm); (case k2 => k_asm); (case k3 => k_is); (case k4 => exact rfl); (case k5 => exact rfl); (case k6 => decide); k_whole)))
local macro_rules | `(tactic| walk_at "eval Name") => `(tactic| (k_here; (with_reducible show wpAny _ _ (eval (Expr.Name _ _) (envX _ _ _ _ _ [_])) _ _ _); (with_reducible rename Fr _ _ _ _ => kF); k_dflt (refine' nameX_B kF ?k1 ?k2 ?k3 ?k4 ?k5 ?_ ?k6 ?k7 ?k8; (case k1 => k_asm); (case k2 => k_asm); (case k3 => k_is); (case k4 => boot_by_name); (case k5 => decide); (case k6 => exact rfl); (case k7 => exact rfl); (case k8 => decide); k_whole)))
local macro_rules | `(tactic| walk_at "call type:super") => `(tactic| (k_here; k_dflt (refine' super_two ?k1 ?k2 ?k3 ?k4 ?k5 ?k6 ?_; (case k1 => k_asm); (case k2 => k_asm); (case k3 => k_asm); (case k4 => k_inst); (case k5 => k_is); (case k6 => k_is); k_whole); intro so' h' F' N' l1; (try k_lt l1)))
local macro_rules | `(tactic| walk_at "call ref") => `(tactic| (k_here; k_dflt (refine' call_meth ?k1 ?k2 ?_; (case k1 => k_asm); (case k2 => k_mem); k_whole); k_dflt (refine' code_def ?k1 ?k2 ?k3 ?k4 ?k5 ?kA ?kF ?kK ?k6 ?k7 ?k8 ?k9 ?kB ?_ ?c2 ?c3 ?c4 ?c5; (case kA => exact rfl); (case kF => exact rfl); (case kK => exact rfl); (case k1 => k_asm); (case k2 => k_asm); (case k3 => k_asm); (case k4 => k_asm); (case k5 => k_asm); (case k6 => k_is); (case k7 => k_is); (case k8 => ktr_room); (case k9 => exact BindsTo.of_eq rfl); (case c5 => decide); (case kB => exact locs rfl); (case c2 => exact rfl); (case c3 => exact rfl); (case c4 => exact rfl); k_whole); intro g' L' h' FG' F' N' B' X' T'; (try dsimp only); (try k_lift B'); (try k_fold)))
variable {prog : Program} {w : World} {pp : Program} {loose : List Str} {mean : ExcName → Option Value} {mg mb : Str → Option Value} {dp un : Nat} {gd : Option (List Code)} {cn : Str} {cs : Scope} {a : Addr} {ccd : Value} {cl : List (Str × Addr)} {outer : List Env} {A₀ : Around} {base h₀ : Heap} {L : Addr} {m : Str → Option Value} {s : Shared} {Q E : Value → Shared → Prop}
    {news : List (Addr × Obj)} {x : Str} {t : Tok}
set_option maxRecDepth 100000 in
set_option maxHeartbeats 8000000 in
theorem make_spec 
    (B : Below A₀ base outer h₀) (F : Fr h₀ L s.heap m) (X : (Mine.hd.heap_39 w.params).In h₀) (N : News h₀ L s.heap news) (T : Top pp loose mean mg mb h₀) (hk : cs.kind = .function)
    (hd : dp + 4 < recursionLimit) (hu : un + 32 < cLine)
    (hret : ∀ (r d md : Addr) (t1 t2 t3 : Tok) (h' : Heap) (tk' : Nat), Fr h₀ L h' m → News h₀ L h' ((r, instObj 380 d) :: (d, dictOf (rEnts w md t1 t2 t3) 3) :: news) → d < r → (∀ p ∈ news, p.1 < d) →
      Q (.ref r) { s with heap := h', toks := tk' }) :
    wpAny (model prog w) (ktrTop dp un gd cn cs L a ccd cl outer) (call (.ref 380) []) Q E s := by
  k_here
  refine' call_cls ?k1 ?k2 ?k3 ?k4 ?k5 ?k6 ?_
  (case k1 => k_asm)
  (case k2 => k_asm)
  (case k3 => k_asm)
  (case k4 => k_is)
  (case k5 => k_is)
  (case k6 => k_is)
  k_whole
  intro x' d' h' F' N' l1 l2; have la := l1; have lb := l2; (try k_lt l1); (try k_lt2 l2); (try k_sweep)
  refine' ks_code_super ?k1 ?k2 ?k3 ?k4 ?k5 ?kA ?kF ?kK ?k6 ?k7 ?k8 ?k9 ?kB ?_ ?c1 ?c2 ?c3 ?c4
  (case kA => exact rfl); (case kF => exact rfl)
  (case kK => first | exact rfl | assumption)
  (case k1 => k_asm); (case k2 => k_asm); (case k3 => k_asm); (case k4 => k_asm); (case k5 => k_asm); (case k6 => k_is); (case k7 => k_is)
  (case k8 => ktr_room)
  (case k9 => exact binds_K (by k_in) rfl (by k_is) rfl rfl rfl)
  (case kB => exact locs rfl); (case c1 => decide); (case c2 => exact rfl); (case c3 => exact rfl); (case c4 => exact rfl); k_whole;
  intro g' L' h' FG' F' N' B' X' T' l1; (try k_lt l1); (try dsimp only); (try k_lift B')
  k_steps
  rename News h₀ _ _ _ => N9
  exact hret _ _ _ _ _ _ _ _ (by assumption) (news_four N9) lb la
end
end Mine
end

section
open PySem PySem.W PyProof.Rows PySem.Calls
namespace Mine
open PySem.Builtin PySem.Builtin.Str
abbrev svs (l : List (Str × Tok)) : List Value := l.map fun q => Value.str q.1 q.2
theorem forIn_wp {M : Model} {A : Around} {E : Value → Shared → Prop} {β : Type} {f : Value → β → Sem (ForInStep β)} {b0 b1 : β} (test : Str → Bool)
    (hf : ∀ p u s (Q : ForInStep β → Shared → Prop), Q (if test p = true then .done b1 else .yield b0) s → wpAny M A (f (.str p u) b0) Q E s) :
    ∀ (l : List (Str × Tok)) (s : Shared) (Q : β → Shared → Prop), Q (if l.any (fun q => test q.1) = true then b1 else b0) s → wpAny M A (forIn (svs l) b0 f) Q E s
  | [], s, Q, h => by
    rw [svs, List.map_nil, List.forIn_nil]
    exact wpAny_pure h
  | q :: l, s, Q, h => by
    rw [svs, List.map_cons, List.forIn_cons]
    refine wpAny_bind (hf _ _ _ _ ?_)
    rw [List.any_cons] at h
    by_cases ht : test q.1 = true
    · rw [if_pos ht]
      rw [ht, Bool.true_or, if_pos rfl] at h
      exact wpAny_pure h
    · rw [if_neg ht]
      rw [Bool.not_eq_true] at ht
      rw [ht, Bool.false_or] at h
      exact forIn_wp test hf l s Q h
section
variable {prog : Program} {w : World} {A : Around} {E : Value → Shared → Prop} {s : Shared} {Q : Value → Shared → Prop}
theorem sub_tup9 : isSubtype (.type "tuple") (.type "tuple") = pure true := by rw [isSubtype_type]; kernel_rfl
theorem starts_tup {x : Str} {t : Tok} {l : Addr} {ps : List (Str × Tok)} (ht : IsTup s.heap l (svs ps).toArray) (hq : Q (.bool (ps.any fun q => Txt.startswith x q.1)) s) :
    wpAny (model prog w) A (call (.builtin "str.startswith") [.str x t, .ref l]) Q E s := by
  refine call_meets PySem.F.slot_str_startswith (S := fun _ R' s' => R' = wants Q E ∧ s' = s) (typeIs_str _ _ _) PySem.F.entry_str_startswith (PySem.F.args_str_startswith_2 _ _) ?_ ⟨rfl, rfl⟩
  rintro prog' w' A' R' s' ⟨rfl, rfl⟩
  obtain ⟨o, ho, hc, n, hd⟩ := ht
  have hT : s'.TypeIs (.ref l) "tuple" := ⟨o, ho, hc⟩
  show wpAny _ _ (affixEntry "startswith" _ _) _ _ _
  unfold affixEntry
  refine wpAny_bind (wpAny_of_eq (show strSomeArgs "startswith" 1 3 ⟨[.str x t, .ref l], []⟩ = pure (.str x t, x, [.ref l]) from by kernel_rfl) ?_)
  refine wpAny_bind (wpAny_of_eq (show searchRange x.length (List.drop 1 [Value.ref l]) = pure (0, x.length) from by
    show searchRange x.length [] = _
    unfold searchRange
    show (pure (((0 : Int).toNat), min ((x.length : Int).toNat) x.length) : Sem (Nat × Nat)) = _
    rw [Int.toNat_natCast, Nat.min_self]
    rfl) ?_)
  refine wpAny_bind (KPt.asStr_ref ho hd ?_)
  refine wpAny_bind (wpAny_isInstance hT sub_tup9 ?_)
  refine bm_if_true rfl ?_
  refine wpAny_bind (wpAny_rule ?_)
  refine wpAny_bind (wpAny_seqItems ho hd ?_)
  dsimp only
  rw [List.forIn_toArray]
  refine wpAny_bind (forIn_wp (b1 := (some (PySem.Fin.done (.ret (.bool true))), ())) (fun p => Txt.startswith x p) ?_ ps _ _ ?_)
  · intro p u s Q h
    refine wpAny_bind (wpAny_pure ?_)
    dsimp only
    by_cases hp : Txt.startswith x p = true
    · refine bm_if_true hp ?_
      rw [if_pos hp] at h
      exact wpAny_bind (wpAny_pure (wpAny_pure h))
    · refine bm_if_false (Bool.eq_false_iff.mpr hp) ?_
      rw [if_neg hp] at h
      exact wpAny_pure h
  · by_cases hp : (ps.any fun q => Txt.startswith x q.1) = true
    · rw [if_pos hp]
      rw [hp] at hq
      exact wpAny_pure hq
    · rw [if_neg hp]
      rw [Bool.not_eq_true] at hp
      rw [hp] at hq
      exact wpAny_pure hq
abbrev strV : Value → Str
  | .str p _ => p
  | _ => Str.empty
abbrev pairV : Value → Str × Tok
  | .str p u => (p, u)
  | _ => (Str.empty, 0)
theorem any_pair (f : Str → Bool) : ∀ vs : List Value, svs (vs.map pairV) = vs → ((vs.map pairV).any fun q => f q.1) = (vs.map strV).any f
  | [], _ => rfl
  | v :: vs, h => by
    have h1 : Value.str (pairV v).1 (pairV v).2 = v := (List.cons.inj h).1
    have h2 : svs (vs.map pairV) = vs := (List.cons.inj h).2
    have e : (pairV v).1 = strV v := by rw [← h1]
    simp only [List.map_cons, List.any_cons, any_pair f vs h2, e]
theorem starts_tup2 {x : Str} {t : Tok} {l : Addr} {vs : List Value} {b : Bool} (ht : IsTup s.heap l vs.toArray) (hv : svs (vs.map pairV) = vs) (hb : ((vs.map strV).any fun p => Txt.startswith x p) = b) (hq : Q (.bool b) s) :
    wpAny (model prog w) A (call (.builtin "str.startswith") [.str x t, .ref l]) Q E s := by
  refine starts_tup (ps := vs.map pairV) (by rw [hv]; exact ht) ?_
  rw [any_pair (fun p => Txt.startswith x p) vs hv, hb]
  exact hq
theorem starts_K2 {K : Frag} {h₀ : Heap} {L : Addr} {m : Str → Option Value} {x : Str} {t : Tok} {l : Addr} {vs : List Value} {n : Nat} {dd : Option Addr} {sl : Array (Option Value)} {b : Bool} (F : Fr h₀ L s.heap m) (X₀ : K.In h₀)
    (hl : K.lookup l = some ⟨.type "tuple", dd, .seq vs.toArray n, sl⟩) (hv : svs (vs.map pairV) = vs) (hb : ((vs.map strV).any fun p => Txt.startswith x p) = b) (hq : Q (.bool b) s) :
    wpAny (model prog w) A (call (.builtin "str.startswith") [.str x t, .ref l]) Q E s := starts_tup2 (tupK (X₀.keeps F.keep) hl) hv hb hq
theorem starts_N {h₀ : Heap} {L : Addr} {news : List (Addr × Obj)} {x : Str} {t : Tok} {l : Addr} {vs : List Value} {b : Bool} (N : News h₀ L s.heap news)
    (hm : (l, { cls := .type "tuple", data := .seq vs.toArray }) ∈ news) (hv : svs (vs.map pairV) = vs) (hb : ((vs.map strV).any fun p => Txt.startswith x p) = b) (hq : Q (.bool b) s) :
    wpAny (model prog w) A (call (.builtin "str.startswith") [.str x t, .ref l]) Q E s := starts_tup2 ⟨_, (N _ hm).1, rfl, _, rfl⟩ hv hb hq
end
end Mine
end

section
open PySem PySem.W PyProof.Rows
namespace Mine
def UrOf (y x : Str) : Prop := y.cps.toList = rounds 3 x.cps.toList
theorem ur_eq2 {x y y0 : Str} (h0 : UrOf y0 x) (h : y.cps.toList = rounds 3 x.cps.toList) : y = y0 := str_eq (h.trans (Eq.symm h0))
section
local macro_rules | `(tactic| k_all) => `(tactic| assumption)
local macro_rules | `(tactic| walk_at "call builtin:str.startswith") => `(tactic| (k_here; (with_reducible show wpAny _ _ (call (Value.builtin "str.startswith") [Value.str _ _, Value.ref _]) _ _ _); k_dflt (refine' starts_K2 ?k1 ?k2 ?k3 ?k4 ?k5 ?_; (case k1 => k_asm); (case k2 => k_asm); (case k3 => k_is); (case k4 => with_unfolding_all rfl); (case k5 => with_unfolding_all assumption); k_whole)))
local macro_rules | `(tactic| walk_at "call builtin:str.startswith") => `(tactic| (k_here; (with_reducible show wpAny _ _ (call (Value.builtin "str.startswith") [Value.str _ _, Value.ref _]) _ _ _); k_dflt (refine' starts_N ?k1 ?k3 ?k4 ?k5 ?_; (case k1 => k_asm); (case k3 => k_mem); (case k4 => with_unfolding_all rfl); (case k5 => with_unfolding_all assumption); k_whole)))
variable {prog : Program} {w : World} {pp : Program} {loose : List Str} {mean : ExcName → Option Value} {mg mb : Str → Option Value} {dp un : Nat} {gd : Option (List Code)} {cn : Str} {cs : Scope} {a : Addr} {ccd : Value} {cl : List (Str × Addr)} {outer : List Env} {A₀ : Around} {base h₀ : Heap} {L : Addr} {m : Str → Option Value} {s : Shared} {Q E : Value → Shared → Prop}
    {news : List (Addr × Obj)} {r d md : Addr} {t1 t2 t3 : Tok} {x z : Str} {t : Tok}
def safeL : List Str := [Str.ofString "http:", Str.ofString "https:", Str.ofString "mailto:", Str.ofString "tel:", Str.ofString "ftp:", Str.ofString "ftps:", Str.ofString "irc:", Str.ofString "ircs:"]
def goodL : List Str := [Str.ofString "data:image/gif;", Str.ofString "data:image/png;", Str.ofString "data:image/jpeg;", Str.ofString "data:image/webp;"]
def pathL : List Str := [Str.ofString "/", Str.ofString "#", Str.ofString "?"]
inductive SafeV (z : Str) : Bool → Prop where
  | http : (safeL.any fun p => Txt.startswith z p) = true → SafeV z true
  | path : (safeL.any fun p => Txt.startswith z p) = false → (goodL.any fun p => Txt.startswith z p) = false → (pathL.any fun p => Txt.startswith z p) = true → SafeV z true
  | bad : (safeL.any fun p => Txt.startswith z p) = false → (goodL.any fun p => Txt.startswith z p) = false → (pathL.any fun p => Txt.startswith z p) = false →
      (∀ y, (Txt.splitMax z (Str.ofString "/") 1)[0]? = some y → (Builtin.Str.occurrences y (Str.ofString ":") 0 y.length 1).isEmpty = false) → SafeV z false
set_option maxRecDepth 100000 in
set_option maxHeartbeats 8000000 in
theorem safe_http
    (B : Below A₀ base outer h₀) (F : Fr h₀ L s.heap m) (X : (Mine.hd.heap_39 w.params).In h₀) (N : News h₀ L s.heap news) (T : Top pp loose mean mg mb h₀) (hk : cs.kind = .function)
    (h1 : (safeL.any fun p => Txt.startswith z p) = true)
    (hd : dp + 3 < recursionLimit) (hu : un + 24 < cLine)
    (hret : ∀ (h' : Heap) (tk' : Nat), Fr h₀ L h' m → News h₀ L h' news → Q (.bool true) { s with heap := h', toks := tk' }) :
    wpAny (model prog w) (ktrTop dp un gd cn cs L a ccd cl outer) (call (.ref 396) [.str z t, .ref 181, .ref 182]) Q E s := by
  refine wpAny_call ?_
  k_dflt cell_enter
  k_steps
  exact hret _ _ (by assumption) (by assumption)
set_option maxRecDepth 100000 in
set_option maxHeartbeats 8000000 in
theorem safe_path
    (B : Below A₀ base outer h₀) (F : Fr h₀ L s.heap m) (X : (Mine.hd.heap_39 w.params).In h₀) (N : News h₀ L s.heap news) (T : Top pp loose mean mg mb h₀) (hk : cs.kind = .function)
    (hz : z.length ≤ 100) (h1 : (safeL.any fun p => Txt.startswith z p) = false) (h2 : (goodL.any fun p => Txt.startswith z p) = false) (h3 : (pathL.any fun p => Txt.startswith z p) = true)
    (hd : dp + 3 < recursionLimit) (hu : un + 24 < cLine)
    (hret : ∀ (h' : Heap) (tk' : Nat), Fr h₀ L h' m → News h₀ L h' news → Q (.bool true) { s with heap := h', toks := tk' }) :
    wpAny (model prog w) (ktrTop dp un gd cn cs L a ccd cl outer) (call (.ref 396) [.str z t, .ref 181, .ref 182]) Q E s := by
  refine wpAny_call ?_
  k_dflt cell_enter
  k_steps
  rename News h₀ _ _ _ => N9
  exact hret _ _ (by assumption) (fun p hp => N9 p (.tail _ hp))
set_option maxRecDepth 100000 in
set_option maxHeartbeats 8000000 in
theorem safe_bad
    (B : Below A₀ base outer h₀) (F : Fr h₀ L s.heap m) (X : (Mine.hd.heap_39 w.params).In h₀) (N : News h₀ L s.heap news) (T : Top pp loose mean mg mb h₀) (hk : cs.kind = .function)
    (hz : z.length ≤ 100) (h1 : (safeL.any fun p => Txt.startswith z p) = false) (h2 : (goodL.any fun p => Txt.startswith z p) = false) (h3 : (pathL.any fun p => Txt.startswith z p) = false)
    (h4 : ∀ y, (Txt.splitMax z (Str.ofString "/") 1)[0]? = some y → (Builtin.Str.occurrences y (Str.ofString ":") 0 y.length 1).isEmpty = false)
    (hd : dp + 3 < recursionLimit) (hu : un + 24 < cLine)
    (hret : ∀ (h' : Heap) (tk' : Nat), Fr h₀ L h' m → News h₀ L h' news → Q (.bool false) { s with heap := h', toks := tk' }) :
    wpAny (model prog w) (ktrTop dp un gd cn cs L a ccd cl outer) (call (.ref 396) [.str z t, .ref 181, .ref 182]) Q E s := by
  refine wpAny_call ?_
  k_dflt cell_enter
  k_steps
  rename News h₀ _ _ _ => N9
  rename List.map _ _ = Txt.splitMax _ _ _ => hl9
  rename (List.map _ _)[_]? = some _ => hg9
  rw [hl9] at hg9
  rw [h4 _ hg9]
  exact hret _ _ (by assumption) (fun p hp => N9 p (.tail _ (.tail _ hp)))
theorem safe_spec {b : Bool}
    (B : Below A₀ base outer h₀) (F : Fr h₀ L s.heap m) (X : (Mine.hd.heap_39 w.params).In h₀) (N : News h₀ L s.heap news) (T : Top pp loose mean mg mb h₀) (hk : cs.kind = .function)
    (hz : z.length ≤ 100) (hv : SafeV z b) (hd : dp + 3 < recursionLimit) (hu : un + 24 < cLine)
    (hret : ∀ (h' : Heap) (tk' : Nat), Fr h₀ L h' m → News h₀ L h' news → Q (.bool b) { s with heap := h', toks := tk' }) :
    wpAny (model prog w) (ktrTop dp un gd cn cs L a ccd cl outer) (call (.ref 396) [.str z t, .ref 181, .ref 182]) Q E s := by
  cases hv with
  | http h1 => exact safe_http B F X N T hk h1 hd hu hret
  | path h1 h2 h3 => exact safe_path B F X N T hk hz h1 h2 h3 hd hu hret
  | bad h1 h2 h3 h4 => exact safe_bad B F X N T hk hz h1 h2 h3 h4 hd hu hret
local macro_rules | `(tactic| walk_at "call ref") => `(tactic| (k_here; (with_reducible show wpAny _ _ (call (Value.ref 389) _ _) _ _ _); k_dflt (refine' url_spec ?k1 ?k2 ?k3 ?k4 ?k5 ?k6 ?k7 ?k8 ?k9 ?k10 ?_; (case k1 => k_asm); (case k2 => k_asm); (case k3 => k_asm); (case k4 => k_asm); (case k5 => k_asm); (case k6 => first | rfl | assumption); (case k7 => omega); (case k8 => assumption); (case k9 => ktr_room); (case k10 => ktr_units); k_whole); intro y' t' h' tk' F' N' hy'; (have e' := ur_eq2 (by assumption) hy'); subst e'; clear hy'))
local macro_rules | `(tactic| walk_at "call ref") => `(tactic| (k_here; (with_reducible show wpAny _ _ (call (Value.ref 396) _ _) _ _ _); k_dflt (refine' safe_spec ?k1 ?k2 ?k3 ?k4 ?k5 ?k6 ?k7 ?k8 ?k9 ?k10 ?_; (case k1 => k_asm); (case k2 => k_asm); (case k3 => k_asm); (case k4 => k_asm); (case k5 => k_asm); (case k6 => first | rfl | assumption); (case k7 => omega); (case k8 => assumption); (case k9 => ktr_room); (case k10 => ktr_units); k_whole); intro h' tk' F' N'))
set_option maxRecDepth 100000 in
set_option maxHeartbeats 8000000 in
theorem sanitize_spec {Y : Str} {b : Bool}
    (B : Below A₀ base outer h₀) (F : Fr h₀ L s.heap m) (X : (Mine.hd.heap_39 w.params).In h₀) (N : News h₀ L s.heap ((r, instObj 380 d) :: (d, dictOf (rEnts w md t1 t2 t3) 3) :: news)) (T : Top pp loose mean mg mb h₀) (hk : cs.kind = .function)
    (hx : x.length ≤ 1000) (hg : GoodT x) (hY : UrOf Y x) (hYl : Y.length ≤ 30) (hv : SafeV (Txt.lstrip (Txt.lower Y)) b)
    (hd : dp + 5 < recursionLimit) (hu : un + 40 < cLine)
    (hyes : b = true → ∀ (h' : Heap) (tk' : Nat), Fr h₀ L h' m → News h₀ L h' ((r, instObj 380 d) :: (d, dictOf (rEnts w md t1 t2 t3) 3) :: news) → Q (.str x t) { s with heap := h', toks := tk' })
    (hno : b = false → ∀ (t' : Tok) (h' : Heap) (tk' : Nat), Fr h₀ L h' m → News h₀ L h' ((r, instObj 380 d) :: (d, dictOf (rEnts w md t1 t2 t3) 3) :: news) → Q (.str (Str.ofString "#harmful-link") t') { s with heap := h', toks := tk' }) :
    wpAny (model prog w) (ktrTop dp un gd cn cs L a ccd cl outer) (call (.ref 227) [.ref r, .str x t]) Q E s := by
  refine wpAny_call ?_
  k_dflt cell_enter
  k_steps
  · exact hyes (by assumption) _ _ (by assumption) (by assumption)
  · exact hno (by assumption) _ _ _ (by assumption) (by assumption)
theorem sanitize_yes {Y : Str}
    (B : Below A₀ base outer h₀) (F : Fr h₀ L s.heap m) (X : (Mine.hd.heap_39 w.params).In h₀) (N : News h₀ L s.heap ((r, instObj 380 d) :: (d, dictOf (rEnts w md t1 t2 t3) 3) :: news)) (T : Top pp loose mean mg mb h₀) (hk : cs.kind = .function)
    (hx : x.length ≤ 1000) (hg : GoodT x) (hY : UrOf Y x) (hYl : Y.length ≤ 30) (hv : SafeV (Txt.lstrip (Txt.lower Y)) true)
    (hd : dp + 5 < recursionLimit) (hu : un + 40 < cLine)
    (hret : ∀ (h' : Heap) (tk' : Nat), Fr h₀ L h' m → News h₀ L h' ((r, instObj 380 d) :: (d, dictOf (rEnts w md t1 t2 t3) 3) :: news) → Q (.str x t) { s with heap := h', toks := tk' }) :
    wpAny (model prog w) (ktrTop dp un gd cn cs L a ccd cl outer) (call (.ref 227) [.ref r, .str x t]) Q E s :=
  sanitize_spec B F X N T hk hx hg hY hYl hv hd hu (fun _ => hret) (fun h => Bool.noConfusion h)
theorem sanitize_no {Y : Str}
    (B : Below A₀ base outer h₀) (F : Fr h₀ L s.heap m) (X : (Mine.hd.heap_39 w.params).In h₀) (N : News h₀ L s.heap ((r, instObj 380 d) :: (d, dictOf (rEnts w md t1 t2 t3) 3) :: news)) (T : Top pp loose mean mg mb h₀) (hk : cs.kind = .function)
    (hx : x.length ≤ 1000) (hg : GoodT x) (hY : UrOf Y x) (hYl : Y.length ≤ 30) (hv : SafeV (Txt.lstrip (Txt.lower Y)) false)
    (hd : dp + 5 < recursionLimit) (hu : un + 40 < cLine)
    (hret : ∀ (t' : Tok) (h' : Heap) (tk' : Nat), Fr h₀ L h' m → News h₀ L h' ((r, instObj 380 d) :: (d, dictOf (rEnts w md t1 t2 t3) 3) :: news) → Q (.str (Str.ofString "#harmful-link") t') { s with heap := h', toks := tk' }) :
    wpAny (model prog w) (ktrTop dp un gd cn cs L a ccd cl outer) (call (.ref 227) [.ref r, .str x t]) Q E s :=
  sanitize_spec B F X N T hk hx hg hY hYl hv hd hu (fun h => Bool.noConfusion h) (fun _ => hret)
end
end Mine
end

section
open PySem PySem.W PyProof.Rows
namespace Mine
theorem rowL_plain : ∀ (pre r : List Nat), (∀ c ∈ pre, c < 128 ∧ c ≠ 37) → rowL (pre ++ r) = pre ++ rowL r
  | [], r, _ => rfl
  | c :: pre, r, h => by
    have hc := h c (.head _)
    rw [List.cons_append, rowL_none (by unfold pct; rw [if_neg hc.2]), rowL_plain pre r (fun x hx => h x (.tail _ hx))]
    unfold u8
    rw [if_pos hc.1]
    rfl
theorem rowL_esc : ∀ (os : List Int) (t r : List Nat), Esc os t → (∀ o ∈ os, 0 ≤ o ∧ o < 256) → rowL (t ++ r) = os.map Int.toNat ++ rowL r
  | [], t, r, e, _ => by
    have : t = [] := e
    subst this
    rfl
  | o :: os, t, r, e, hb => by
    obtain ⟨h, l, t', rfl, h1, h2, e2⟩ := e
    have ho := hb o (.head _)
    have hp : pct 37 (h :: l :: (t' ++ r)) = some o.toNat := by
      simp only [pct, if_true, h1, h2]
      congr 1
      omega
    rw [List.cons_append, List.cons_append, List.cons_append, rowL_some hp]
    rw [List.drop_succ_cons, List.drop_succ_cons, List.drop_zero, rowL_esc os t' r e2 (fun x hx => hb x (.tail _ hx))]
    rfl
theorem rounds_fix {t u : List Nat} (h1 : rd t = u) (h2 : rd u = u) : rounds 3 t = u := by
  unfold rounds
  by_cases h : rd t = t
  · rw [if_pos h, ← h, h1]
  · rw [if_neg h, h1]
    unfold rounds
    rw [if_pos h2]
def uOf (pre : List Nat) (k : Nat) (suf : List Nat) : List Nat := pre ++ List.replicate k 65533 ++ suf
def javaL : List Nat := [106, 97, 118, 97]
def scriptL : List Nat := [115, 99, 114, 105, 112, 116, 58, 120]
def httpL : List Nat := [104, 116, 116, 112, 58]
def slashL : List Nat := [47]
theorem java_list : (Str.ofString "java").cps.toList = javaL := by decide +kernel
theorem script_list : (Str.ofString "script:x").cps.toList = scriptL := by decide +kernel
theorem http_list : (Str.ofString "http:").cps.toList = httpL := by decide +kernel
theorem slash_list : (Str.ofString "/").cps.toList = slashL := by decide +kernel
def ks : List Nat := [1, 2, 3, 4, 5]
theorem java_dec : ∀ os ∈ brokenRows, ∃ k ∈ ks, decL (javaL ++ (os.map Int.toNat ++ scriptL)) = uOf javaL k scriptL := by decide +kernel
theorem http_dec : ∀ os ∈ brokenRows, ∃ k ∈ ks, decL (httpL ++ (os.map Int.toNat ++ [])) = uOf httpL k [] := by decide +kernel
theorem slash_dec : ∀ os ∈ brokenRows, ∃ k ∈ ks, decL (slashL ++ (os.map Int.toNat ++ [])) = uOf slashL k [] := by decide +kernel
theorem java_fix : ∀ k ∈ ks, rd (uOf javaL k scriptL) = uOf javaL k scriptL := by decide +kernel
theorem http_fix : ∀ k ∈ ks, rd (uOf httpL k []) = uOf httpL k [] := by decide +kernel
theorem slash_fix : ∀ k ∈ ks, rd (uOf slashL k []) = uOf slashL k [] := by decide +kernel
def yOf (pre : List Nat) (k : Nat) (suf : List Nat) : Str := ⟨(uOf pre k suf).toArray⟩
theorem y_len : ∀ k ∈ ks, (yOf javaL k scriptL).length ≤ 30 ∧ (yOf httpL k []).length ≤ 30 ∧ (yOf slashL k []).length ≤ 30 := by decide +kernel
def lowJ (k : Nat) : Bool := Txt.lstrip (Txt.lower (yOf javaL k scriptL)) == yOf javaL k scriptL && Txt.lstrip (Txt.lower (yOf httpL k [])) == yOf httpL k [] && Txt.lstrip (Txt.lower (yOf slashL k [])) == yOf slashL k []
theorem low_same : ∀ k ∈ ks, lowJ k = true := by decide +kernel
theorem http_safe : ∀ k ∈ ks, (safeL.any fun p => Txt.startswith (yOf httpL k []) p) = true := by decide +kernel
theorem slash_safe : ∀ k ∈ ks, (safeL.any fun p => Txt.startswith (yOf slashL k []) p) = false ∧ (goodL.any fun p => Txt.startswith (yOf slashL k []) p) = false ∧ (pathL.any fun p => Txt.startswith (yOf slashL k []) p) = true := by decide +kernel
theorem java_safe : ∀ k ∈ ks, (safeL.any fun p => Txt.startswith (yOf javaL k scriptL) p) = false ∧ (goodL.any fun p => Txt.startswith (yOf javaL k scriptL) p) = false ∧ (pathL.any fun p => Txt.startswith (yOf javaL k scriptL) p) = false := by decide +kernel
theorem java_split : ∀ k ∈ ks, (Txt.splitMax (yOf javaL k scriptL) (Str.ofString "/") 1)[0]? = some (yOf javaL k scriptL) := by decide +kernel
theorem java_colon : ∀ k ∈ ks, (Builtin.Str.occurrences (yOf javaL k scriptL) (Str.ofString ":") 0 (yOf javaL k scriptL).length 1).isEmpty = false := by decide +kernel
section
variable {os : List Int} {x : Str} {k : Nat}
theorem ur_of {pre suf : List Nat} {X : Str} (hX : X.cps.toList = pre ++ (x.cps.toList ++ suf)) (hE : Esc os x.cps.toList) (hb : ∀ o ∈ os, 0 ≤ o ∧ o < 256) (hp : ∀ c ∈ pre, c < 128 ∧ c ≠ 37) (hs : ∀ c ∈ suf, c < 128 ∧ c ≠ 37)
    (hd : decL (pre ++ (os.map Int.toNat ++ suf)) = uOf pre k suf) (hf : rd (uOf pre k suf) = uOf pre k suf) : UrOf (yOf pre k suf) X := by
  refine (Eq.symm (rounds_fix ?_ hf))
  unfold rd
  rw [hX, rowL_plain pre _ hp, rowL_esc os _ suf hE hb]
  have e := rowL_plain suf [] hs
  rw [List.append_nil, rowL_nil, List.append_nil] at e
  rw [e]
  exact hd
theorem bad_of (hE : Esc os x.cps.toList) (hm : os ∈ brokenRows) : ∃ Y, UrOf Y (Str.ofString "java" ++ x ++ Str.ofString "script:x") ∧ Y.length ≤ 30 ∧ SafeV (Txt.lstrip (Txt.lower Y)) false := by
  obtain ⟨k, hk, hd⟩ := java_dec os hm
  refine ⟨yOf javaL k scriptL, ur_of ?_ hE (broken_ok os hm).1 (by decide) (by decide) hd (java_fix k hk), (y_len k hk).1, ?_⟩
  · rw [Str.cps_append, Str.cps_append, Array.toList_append, Array.toList_append, java_list, script_list, List.append_assoc]
  · have hl := low_same k hk
    unfold lowJ at hl
    simp only [Bool.and_eq_true, beq_iff_eq] at hl
    rw [hl.1.1]
    obtain ⟨h1, h2, h3⟩ := java_safe k hk
    refine .bad h1 h2 h3 fun y hy => ?_
    rw [java_split k hk] at hy
    cases hy
    exact java_colon k hk
theorem path_of (hE : Esc os x.cps.toList) (hm : os ∈ brokenRows) : ∃ Y, UrOf Y (Str.ofString "/" ++ x) ∧ Y.length ≤ 30 ∧ SafeV (Txt.lstrip (Txt.lower Y)) true := by
  obtain ⟨k, hk, hd⟩ := slash_dec os hm
  refine ⟨yOf slashL k [], ur_of ?_ hE (broken_ok os hm).1 (by decide) (by decide) hd (slash_fix k hk), (y_len k hk).2.2, ?_⟩
  · rw [Str.cps_append, Array.toList_append, slash_list, List.append_nil]
  · have hl := low_same k hk
    unfold lowJ at hl
    simp only [Bool.and_eq_true, beq_iff_eq] at hl
    rw [hl.2]
    obtain ⟨h1, h2, h3⟩ := slash_safe k hk
    exact .path h1 h2 h3
theorem http_of (hE : Esc os x.cps.toList) (hm : os ∈ brokenRows) : ∃ Y, UrOf Y (Str.ofString "http:" ++ x) ∧ Y.length ≤ 30 ∧ SafeV (Txt.lstrip (Txt.lower Y)) true := by
  obtain ⟨k, hk, hd⟩ := http_dec os hm
  refine ⟨yOf httpL k [], ur_of ?_ hE (broken_ok os hm).1 (by decide) (by decide) hd (http_fix k hk), (y_len k hk).2.1, ?_⟩
  · rw [Str.cps_append, Array.toList_append, http_list, List.append_nil]
  · have hl := low_same k hk
    unfold lowJ at hl
    simp only [Bool.and_eq_true, beq_iff_eq] at hl
    rw [hl.1.2]
    exact .http (http_safe k hk)
end
end Mine
end

section
open PySem PySem.W PyProof.Rows
namespace Mine

def UqIs (y x : Str) : Prop := y.cps.toList = rd x.cps.toList
theorem uq_is {x y : Str} (h : y.cps.toList = rd x.cps.toList) : UqIs y x := h
theorem uq_eq {x y y0 : Str} (h0 : UqIs y0 x) (h : y.cps.toList = rd x.cps.toList) : y = y0 := str_eq (h.trans (Eq.symm h0))
def UrIs (y x : Str) : Prop := y.cps.toList = rounds 3 x.cps.toList
theorem ur_is {x y : Str} (h : y.cps.toList = rounds 3 x.cps.toList) : UrIs y x := h
theorem ur_eq {x y y0 : Str} (h0 : UrIs y0 x) (h : y.cps.toList = rounds 3 x.cps.toList) : y = y0 := str_eq (h.trans (Eq.symm h0))
theorem good_esc {os : List Int} {x : Str} (h : Esc os x.cps.toList) : GoodT x := Esc.good h
local macro_rules | `(tactic| k_all) => `(tactic| first | assumption | (refine fun q hq => Nat.ne_of_lt (?_ q hq); assumption))
local macro_rules | `(tactic| walk_at "call ref") => `(tactic| (k_here; (with_reducible show wpAny _ _ (call (Value.ref 449) _ _) _ _ _); k_dflt (refine' draw_spec ?k1 ?k2 ?k3 ?k4 ?k5 ?k6 ?k7 ?k8 ?k9 ?k10 ?k11 ?k12 ?k13 ?k14 ?k15 ?k16 ?k17 ?k18 ?_; (case k1 => k_asm); (case k2 => k_asm); (case k3 => k_asm); (case k4 => first | k_asm | exact news_swap (by k_asm)); (case k5 => k_asm); (case k6 => first | rfl | assumption); (case k7 => k_asm); (case k8 => k_asm); (case k9 => first | assumption | omega); (case k10 => k_all); (case k11 => omega); (case k12 => omega); (case k13 => omega); (case k14 => omega); (case k15 => omega); (case k16 => omega); (case k17 => ktr_room); (case k18 => ktr_units); k_whole); intro t' h' tk' r' z' tp' tz' n' F' N' hz1' hz2' hr1' hr2'))
local macro_rules | `(tactic| walk_at "call ref") => `(tactic| (k_here; (with_reducible show wpAny _ _ (call (Value.ref 456) [_, Value.ref 411] _) _ _ _); k_dflt (refine' pick_spec ?k1 ?k2 ?k3 ?k4 ?k5 ?k6 ?k7 ?k8 ?k9 ?k10 ?k11 ?k12 ?k13 ?k14 ?k15 ?k16 ?k17 ?k18 ?k19 ?_; (case k1 => k_asm); (case k2 => k_asm); (case k3 => k_asm); (case k4 => k_asm); (case k5 => k_asm); (case k6 => first | rfl | assumption); (case k7 => k_asm); (case k8 => k_asm); (case k9 => first | assumption | omega); (case k10 => k_all); (case k11 => omega); (case k12 => omega); (case k13 => omega); (case k14 => omega); (case k15 => exact right_list (by k_asm)); (case k16 => decide); (case k17 => decide); (case k18 => ktr_room); (case k19 => ktr_units); k_whole); intro v' h' tk' z' tp' tz' n' F' N' hz1' hz2' hv'; (have hq' := right_mem (by k_asm) _ hv'); (unfold RowOf at hq'); (obtain ⟨l', us', os', hv2, hrw', his', hmr'⟩ := hq'); subst hv2; (obtain ⟨hoo', hol'⟩ := right_ok _ hmr')))
local macro_rules | `(tactic| walk_at "call ref") => `(tactic| (k_here; (with_reducible show wpAny _ _ (call (Value.ref 456) [_, Value.ref 441] _) _ _ _); k_dflt (refine' pick_spec ?k1 ?k2 ?k3 ?k4 ?k5 ?k6 ?k7 ?k8 ?k9 ?k10 ?k11 ?k12 ?k13 ?k14 ?k15 ?k16 ?k17 ?k18 ?k19 ?_; (case k1 => k_asm); (case k2 => k_asm); (case k3 => k_asm); (case k4 => k_asm); (case k5 => k_asm); (case k6 => first | rfl | assumption); (case k7 => k_asm); (case k8 => k_asm); (case k9 => first | assumption | omega); (case k10 => k_all); (case k11 => omega); (case k12 => omega); (case k13 => omega); (case k14 => omega); (case k15 => exact broken_list (by k_asm)); (case k16 => decide); (case k17 => decide); (case k18 => ktr_room); (case k19 => ktr_units); k_whole); intro v' h' tk' z' tp' tz' n' F' N' hz1' hz2' hv'; (have hq' := broken_mem (by k_asm) _ hv'); (unfold RowOf at hq'); (obtain ⟨l', us', os', hv2, hrw', his', hmr'⟩ := hq'); subst hv2; (obtain ⟨hoo', hol'⟩ := broken_ok _ hmr')))
local macro_rules | `(tactic| walk_at "call ref") => `(tactic| (k_here; (with_reducible show wpAny _ _ (call (Value.ref 456) [_, Value.ref 442] _) _ _ _); k_dflt (refine' pick_spec ?k1 ?k2 ?k3 ?k4 ?k5 ?k6 ?k7 ?k8 ?k9 ?k10 ?k11 ?k12 ?k13 ?k14 ?k15 ?k16 ?k17 ?k18 ?k19 ?_; (case k1 => k_asm); (case k2 => k_asm); (case k3 => k_asm); (case k4 => k_asm); (case k5 => k_asm); (case k6 => first | rfl | assumption); (case k7 => k_asm); (case k8 => k_asm); (case k9 => first | assumption | omega); (case k10 => k_all); (case k11 => omega); (case k12 => omega); (case k13 => omega); (case k14 => omega); (case k15 => exact signs_list (by k_asm)); (case k16 => decide); (case k17 => decide); (case k18 => ktr_room); (case k19 => ktr_units); k_whole); intro v' h' tk' z' tp' tz' n' F' N' hz1' hz2' hv'; (obtain ⟨x', t', hv2, hgx', hlx'⟩ := signs_mem _ hv'); subst hv2))
local macro_rules | `(tactic| walk_at "call ref") => `(tactic| (k_here; (with_reducible show wpAny _ _ (call (Value.ref 463) _ _) _ _ _); k_dflt (first
  | (refine' written_spec ?k1 ?k2 ?k3 ?k4 ?k5 ?k6 ?k7 ?k8 ?k9 ?k10 ?k11 ?k12 ?k13 ?k14 ?k15 ?k16 ?k17 ?k18 ?k19 ?k20 ?_; (case k15 => assumption); (case k16 => assumption); (case k1 => k_asm); (case k2 => k_asm); (case k3 => k_asm); (case k4 => k_asm); (case k5 => k_asm); (case k6 => first | rfl | assumption); (case k7 => k_asm); (case k8 => k_asm); (case k9 => first | assumption | omega); (case k10 => k_all); (case k11 => omega); (case k12 => omega); (case k13 => omega); (case k14 => omega); (case k17 => assumption); (case k18 => assumption); (case k19 => ktr_room); (case k20 => ktr_units); k_whole)
  | (refine' written_spec2 ?k1 ?k2 ?k3 ?k4 ?k5 ?k6 ?k7 ?k8 ?k9 ?k10 ?k15 ?k11 ?k12 ?k13 ?k14 ?k16 ?k17 ?k18 ?k19 ?k20 ?_; (case k4 => first | k_asm | exact news_swap (by k_asm)); (case k1 => k_asm); (case k2 => k_asm); (case k3 => k_asm); (case k5 => k_asm); (case k6 => first | rfl | assumption); (case k7 => k_asm); (case k8 => k_asm); (case k9 => first | assumption | omega); (case k10 => k_all); (case k11 => omega); (case k12 => omega); (case k13 => omega); (case k14 => omega); (case k15 => k_ne); (case k16 => exact .cons _ _ .nil); (case k17 => first | exact one_ok _ | exact zero_ok); (case k18 => simp); (case k19 => ktr_room); (case k20 => ktr_units); k_whole)); intro x' t' h' tk' z' tp' tz' n' F' N' hz1' hz2' hE'; (have hlE' := Esc.len hE'); (have hgE' := good_esc hE')))
local macro_rules | `(tactic| walk_at "call ref") => `(tactic| (k_here; (with_reducible show wpAny _ _ (call (Value.ref 53) _ _) _ _ _); k_dflt (refine' unquote_spec ?k1 ?k2 ?k3 ?k4 ?k5 ?k6 ?k7 ?k8 ?k9 ?k10 ?_; (case k1 => k_asm); (case k2 => k_asm); (case k3 => k_asm); (case k4 => k_asm); (case k5 => k_asm); (case k6 => first | rfl | assumption); (case k7 => omega); (case k8 => assumption); (case k9 => ktr_room); (case k10 => ktr_units); k_whole); intro y' t' h' tk' F' N' hy'); (replace hy' := uq_is hy'))
local macro_rules | `(tactic| walk_at "call ref") => `(tactic| (k_here; (with_reducible show wpAny _ _ (call (Value.ref 512) _ _) _ _ _); k_dflt (refine' read_spec ?k1 ?k2 ?k3 ?k4 ?k5 ?k6 ?k7 ?k8 ?k9 ?k10 ?_; (case k1 => k_asm); (case k2 => k_asm); (case k3 => k_asm); (case k4 => k_asm); (case k5 => k_asm); (case k6 => first | rfl | assumption); (case k7 => omega); (case k8 => assumption); (case k9 => ktr_room); (case k10 => ktr_units); k_whole); intro y' t' h' tk' F' N' hy'); (have e' := uq_eq (by assumption) hy'); subst e'; clear hy')
local macro_rules | `(tactic| walk_at "call ref") => `(tactic| (k_here; (with_reducible show wpAny _ _ (call (Value.ref 389) _ _) _ _ _); k_dflt (refine' url_spec ?k1 ?k2 ?k3 ?k4 ?k5 ?k6 ?k7 ?k8 ?k9 ?k10 ?_; (case k1 => k_asm); (case k2 => k_asm); (case k3 => k_asm); (case k4 => k_asm); (case k5 => k_asm); (case k6 => first | rfl | assumption); (case k7 => omega); (case k8 => assumption); (case k9 => ktr_room); (case k10 => ktr_units); k_whole); intro y' t' h' tk' F' N' hy'); (replace hy' := ur_is hy'))
local macro_rules | `(tactic| walk_at "call ref") => `(tactic| (k_here; (with_reducible show wpAny _ _ (call (Value.ref 519) _ _) _ _ _); k_dflt (refine' rounds_spec ?k1 ?k2 ?k3 ?k4 ?k5 ?k6 ?k7 ?k8 ?k9 ?k10 ?_; (case k1 => k_asm); (case k2 => k_asm); (case k3 => k_asm); (case k4 => k_asm); (case k5 => k_asm); (case k6 => first | rfl | assumption); (case k7 => omega); (case k8 => assumption); (case k9 => ktr_room); (case k10 => ktr_units); k_whole); intro y' t' h' tk' F' N' hy'); (have e' := ur_eq (by assumption) hy'); subst e'; clear hy')
local macro_rules | `(tactic| walk_at "call ref") => `(tactic| (k_here; (with_reducible show wpAny _ _ (call (Value.ref 470) _ _) _ _ _); k_dflt (refine' piece_spec ?k1 ?k2 ?k3 ?k4 ?k5 ?k6 ?k7 ?k8 ?k9 ?k10 ?k11 ?k12 ?k13 ?k14 ?k15 ?k16 ?k17 ?_; (case k1 => k_asm); (case k2 => k_asm); (case k3 => k_asm); (case k4 => first | k_asm | exact news_swap (by k_asm)); (case k5 => k_asm); (case k6 => first | rfl | assumption); (case k7 => k_asm); (case k8 => k_asm); (case k9 => omega); (case k10 => k_all); (case k11 => omega); (case k12 => omega); (case k13 => omega); (case k14 => omega); (case k15 => omega); (case k16 => ktr_room); (case k17 => ktr_units); k_whole); intro x' t' h' tk' p' z' tp' tz' n' F' N' hpp1' hpp2' hz1' hz2' hgx' hlx'))
theorem rsz {r : Int} (h0 : 0 ≤ r) : Builtin.Range.rangeSize 0 (1 + r) 1 = ((1 + r.toNat : Nat) : Int) := by
  unfold Builtin.Range.rangeSize
  simp
  omega
theorem rsmall {r : Int} (h0 : 0 ≤ r) (h1 : r < 10) : Builtin.Range.small 0 (1 + r) 1 = true := by
  have h : r = 0 ∨ r = 1 ∨ r = 2 ∨ r = 3 ∨ r = 4 ∨ r = 5 ∨ r = 6 ∨ r = 7 ∨ r = 8 ∨ r = 9 := by omega
  rcases h with rfl | rfl | rfl | rfl | rfl | rfl | rfl | rfl | rfl | rfl <;> decide +kernel
section
variable {prog : Program} {w : World} {pp : Program} {loose : List Str} {mean : ExcName → Option Value} {mg mb : Str → Option Value} {dp un : Nat} {gd : Option (List Code)} {cn : Str} {cs : Scope} {a : Addr} {ccd : Value} {cl : List (Str × Addr)} {outer : List Env} {A₀ : Around} {base h₀ : Heap} {L : Addr} {m : Str → Option Value} {s : Shared} {Q E : Value → Shared → Prop}
    {news : List (Addr × Obj)} {r d md : Addr} {t1 t2 t3 : Tok} {x z : Str} {t : Tok} {os : List Int}
theorem len_app9 (a b : Str) : (a ++ b).length = a.length + b.length := by
  show (a.cps ++ b.cps).size = _
  exact Array.size_append
theorem esc_short (hE : Esc os x.cps.toList) (hm : os ∈ brokenRows) : x.length ≤ 15 := by
  have h1 := hE.len
  have h2 := (broken_ok os hm).2
  omega
theorem good_lit {x : Str} (h : (x.cps.toList.all fun c => decide (c < 0x110000 ∧ ¬ (0xD800 ≤ c ∧ c ≤ 0xDFFF))) = true) : GoodT x := good_of h
theorem law_bad
    (B : Below A₀ base outer h₀) (F : Fr h₀ L s.heap m) (X : (Mine.hd.heap_39 w.params).In h₀) (N : News h₀ L s.heap ((r, instObj 380 d) :: (d, dictOf (rEnts w md t1 t2 t3) 3) :: news)) (T : Top pp loose mean mg mb h₀) (hk : cs.kind = .function)
    (hm : os ∈ brokenRows) (hE : Esc os x.cps.toList)
    (hd : dp + 5 < recursionLimit) (hu : un + 40 < cLine)
    (hret : ∀ (t' : Tok) (h' : Heap) (tk' : Nat), Fr h₀ L h' m → News h₀ L h' ((r, instObj 380 d) :: (d, dictOf (rEnts w md t1 t2 t3) 3) :: news) → Q (.str (Str.ofString "#harmful-link") t') { s with heap := h', toks := tk' }) :
    wpAny (model prog w) (ktrTop dp un gd cn cs L a ccd cl outer) (call (.ref 227) [.ref r, .str (Str.ofString "java" ++ x ++ Str.ofString "script:x") t]) Q E s := by
  obtain ⟨Y, h1, h2, h3⟩ := bad_of hE hm
  have hl := esc_short hE hm
  have l1 : (Str.ofString "java").length = 4 := by decide +kernel
  have l2 : (Str.ofString "script:x").length = 8 := by decide +kernel
  exact sanitize_no B F X N T hk (by rw [len_app9, len_app9]; omega) (good_append (good_append (good_of (by decide +kernel)) hE.good) (good_of (by decide +kernel))) h1 h2 h3 hd hu hret
theorem law_path
    (B : Below A₀ base outer h₀) (F : Fr h₀ L s.heap m) (X : (Mine.hd.heap_39 w.params).In h₀) (N : News h₀ L s.heap ((r, instObj 380 d) :: (d, dictOf (rEnts w md t1 t2 t3) 3) :: news)) (T : Top pp loose mean mg mb h₀) (hk : cs.kind = .function)
    (hm : os ∈ brokenRows) (hE : Esc os x.cps.toList)
    (hd : dp + 5 < recursionLimit) (hu : un + 40 < cLine)
    (hret : ∀ (h' : Heap) (tk' : Nat), Fr h₀ L h' m → News h₀ L h' ((r, instObj 380 d) :: (d, dictOf (rEnts w md t1 t2 t3) 3) :: news) → Q (.str (Str.ofString "/" ++ x) t) { s with heap := h', toks := tk' }) :
    wpAny (model prog w) (ktrTop dp un gd cn cs L a ccd cl outer) (call (.ref 227) [.ref r, .str (Str.ofString "/" ++ x) t]) Q E s := by
  obtain ⟨Y, h1, h2, h3⟩ := path_of hE hm
  have hl := esc_short hE hm
  have l1 : (Str.ofString "/").length = 1 := by decide +kernel
  exact sanitize_yes B F X N T hk (by rw [len_app9]; omega) (good_append (good_of (by decide +kernel)) hE.good) h1 h2 h3 hd hu hret
theorem law_http
    (B : Below A₀ base outer h₀) (F : Fr h₀ L s.heap m) (X : (Mine.hd.heap_39 w.params).In h₀) (N : News h₀ L s.heap ((r, instObj 380 d) :: (d, dictOf (rEnts w md t1 t2 t3) 3) :: news)) (T : Top pp loose mean mg mb h₀) (hk : cs.kind = .function)
    (hm : os ∈ brokenRows) (hE : Esc os x.cps.toList)
    (hd : dp + 5 < recursionLimit) (hu : un + 40 < cLine)
    (hret : ∀ (h' : Heap) (tk' : Nat), Fr h₀ L h' m → News h₀ L h' ((r, instObj 380 d) :: (d, dictOf (rEnts w md t1 t2 t3) 3) :: news) → Q (.str (Str.ofString "http:" ++ x) t) { s with heap := h', toks := tk' }) :
    wpAny (model prog w) (ktrTop dp un gd cn cs L a ccd cl outer) (call (.ref 227) [.ref r, .str (Str.ofString "http:" ++ x) t]) Q E s := by
  obtain ⟨Y, h1, h2, h3⟩ := http_of hE hm
  have hl := esc_short hE hm
  have l1 : (Str.ofString "http:").length = 5 := by decide +kernel
  exact sanitize_yes B F X N T hk (by rw [len_app9]; omega) (good_append (good_of (by decide +kernel)) hE.good) h1 h2 h3 hd hu hret
end
local macro_rules | `(tactic| walk_at "call ref") => `(tactic| (k_here; (with_reducible show wpAny _ _ (call (Value.ref 227) [_, Value.str (Str.ofString "java" ++ _ ++ _) _] _) _ _ _); k_dflt (refine' law_bad ?k1 ?k2 ?k3 ?k4 ?k5 ?k6 ?k7 ?k8 ?k9 ?k10 ?_; (case k1 => k_asm); (case k2 => k_asm); (case k3 => k_asm); (case k4 => k_asm); (case k5 => k_asm); (case k6 => first | rfl | assumption); (case k7 => assumption); (case k8 => assumption); (case k9 => ktr_room); (case k10 => ktr_units); k_whole); intro t' h' tk' F' N'))
local macro_rules | `(tactic| walk_at "call ref") => `(tactic| (k_here; (with_reducible show wpAny _ _ (call (Value.ref 227) [_, Value.str (Str.ofString "/" ++ _) _] _) _ _ _); k_dflt (refine' law_path ?k1 ?k2 ?k3 ?k4 ?k5 ?k6 ?k7 ?k8 ?k9 ?k10 ?_; (case k1 => k_asm); (case k2 => k_asm); (case k3 => k_asm); (case k4 => k_asm); (case k5 => k_asm); (case k6 => first | rfl | assumption); (case k7 => assumption); (case k8 => assumption); (case k9 => ktr_room); (case k10 => ktr_units); k_whole); intro h' tk' F' N'))
local macro_rules | `(tactic| walk_at "call ref") => `(tactic| (k_here; (with_reducible show wpAny _ _ (call (Value.ref 227) [_, Value.str (Str.ofString "http:" ++ _) _] _) _ _ _); k_dflt (refine' law_http ?k1 ?k2 ?k3 ?k4 ?k5 ?k6 ?k7 ?k8 ?k9 ?k10 ?_; (case k1 => k_asm); (case k2 => k_asm); (case k3 => k_asm); (case k4 => k_asm); (case k5 => k_asm); (case k6 => first | rfl | assumption); (case k7 => assumption); (case k8 => assumption); (case k9 => ktr_room); (case k10 => ktr_units); k_whole); intro h' tk' F' N'))
local macro_rules | `(tactic| walk_at "call ref") => `(tactic| (k_here; (with_reducible show wpAny _ _ (call (Value.ref 380) _ _) _ _ _); (try with_reducible show wpAny _ _ (call (Value.ref 380) [] []) _ _ _); k_dflt (refine' make_spec ?k1 ?k2 ?k3 ?k4 ?k5 ?k6 ?k9 ?k10 ?_; (case k1 => k_asm); (case k2 => k_asm); (case k3 => k_asm); (case k4 => k_asm); (case k5 => k_asm); (case k6 => first | rfl | assumption); (case k9 => ktr_room); (case k10 => ktr_units); k_whole); intro r' d' md' t1' t2' t3' h' tk' F' N' l1' l2'; (try k_lt l2')))
structure LwS where
  x : Str
  tx : Tok
  p : Int
  tp : Tok
  z : Int
  tz : Tok
  n : Nat
local macro_rules | `(tactic| walk_at "pyIter ref") => `(tactic| ((with_reducible show wpAny _ _ (pyIter (Value.ref _)) (fun it s₂ => LoopAtV _ _ _ _ _ _ _ _ _ it s₂) _ _); k_extra "pieces loop"))
local macro_rules | `(tactic| walk_at "exec For Name Call cons nil") => `(tactic| (k_here; (rename Fr _ _ _ _ => lF'); (with_unfolding_all refine' For_invVF lF' ?k1 ?k2 ?_; (case k1 => exact rfl); (case k2 => exact rfl); k_whole)))
set_option maxRecDepth 100000 in
set_option maxHeartbeats 3000000 in
theorem law_spec : PySem.Challenge.rw_ah6019_01.Holds := Mine.hd (by
  k_go0
  all_goals try k_fold
  (k_with "pieces loop" => (
    rename Fr _ _ _ _ => lF
    rename News _ _ _ _ => lN
    rename IsRange _ _ _ _ _ _ _ _ => rgX
    with_unfolding_all refine' kst_range (σ := LwS) (fun c => (_, boxO _ c.p c.tp c.z c.tz c.n) :: _) (fun c => [(Str.ofString "text", .str c.x c.tx)]) (fun _ => True) [] (fun pre c => GoodT c.x ∧ c.x.length ≤ 30 + 15 * pre.length ∧ 0 ≤ c.p ∧ c.p ≤ 100 + 10 * pre.length ∧ 0 ≤ c.z ∧ c.z < 2147483647) ⟨_, _, _, _, _, _, _⟩ (by rfl) rgX (rsmall (by assumption) (by assumption)) (rsz (by assumption)) lF lN True.intro ?kk ?kp ?kturn ?kdone
    case kk => kst_all
    case kp =>
      refine ⟨good_append (by assumption) (by assumption), ?_, ?_, ?_, by assumption, by assumption⟩
      · simp only [List.length_nil]; omega
      · dsimp only; omega
      · simp only [List.length_nil]; omega
    clear lF lN
    case' kturn =>
      intro c pre k t u h2 tk2 own hkk hpl hoff2 _ hP F2 N2
      obtain ⟨x, tx, p, tp, z, tz, n⟩ := c
      obtain ⟨hgx, hlx, hp1, hp2, hz1, hz2⟩ := hP
      dsimp only [kstB] at hgx hlx hp1 hp2 hz1 hz2 F2 N2
      try dsimp only
      show wpAny _ _ _ _ _ _
      try k_fold
    case' kdone =>
      intro c u h2 tk2 _ hP F2 N2
      obtain ⟨x, tx, p, tp, z, tz, n⟩ := c
      obtain ⟨hgx, hlx, hp1, hp2, hz1, hz2⟩ := hP
      simp only [rangeKs_length] at hlx hp2
      dsimp only [kstB] at hgx hlx hp1 hp2 hz1 hz2 F2 N2
      try k_fold))
  k_steps
  rename Fr _ _ _ _ => F9
  rename News _ _ _ _ => N9
  exact kst_end (⟨_, _, _, _, _, _, _⟩ : LwS) F9 N9 (fun q hq => List.mem_append_left _ hq) (fun q hq => List.mem_append_right [_, _] hq) (by rfl) True.intro (by kst_all) (by kst_same) (by
    simp only [List.length_append, List.length_cons, List.length_nil]
    exact ⟨good_append hgx (by assumption), by omega, by omega, by omega, by assumption, by assumption⟩))
end Mine
end
theorem PySem.Challenge.cw_ah6019_01_holds : PySem.Challenge.rw_ah6019_01.Holds := by
  exact Mine.law_spec
