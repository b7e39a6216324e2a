import PyProof.Rows.All
import Wide.All
import OpenK.AllK
import Wide.FinOn
import PySem.Challenge.RW_lc0006_01
open PySem PySem.W PyProof.Rows
set_option Elab.async false

section Head
set_option maxRecDepth 100000
set_option maxHeartbeats 8000000
namespace Mine
open_top hd for PySem.Challenge.rw_lc0006_01
end Mine
end Head

section PartPlain
open PySem PySem.W PyProof.Rows
namespace Mine
/-- two places swapped -/
def sw (s : List Int) (i j : Int) : List Int := (s.set i.toNat (s.getD j.toNat 0)).set j.toNat (s.getD i.toNat 0)
/-- one turn of the key schedule -/
def kstep (key : List Int) (st : Int × List Int) (i : Int) : Int × List Int :=
  let j := Int.fmod (st.1 + st.2.getD i.toNat 0 + key.getD (Int.fmod i (key.length : Int)).toNat 0) 256
  (j, sw st.2 i j)
@[irreducible] def kst (key : List Int) (pre : List Int) : Int × List Int := pre.foldl (kstep key) (0, rangeKs 0 256)
@[irreducible] def ksa (key : List Int) : List Int := (kst key (rangeKs 0 256)).2
/-- the box: 256 octets -/
def Box (s : List Int) : Prop := s.length = 256 ∧ ∀ v ∈ s, 0 ≤ v ∧ v < 256
/-- the state of the stream: i, j, the box -/
structure St where
  i : Int
  j : Int
  s : List Int
def Ok (t : St) : Prop := 0 ≤ t.i ∧ t.i < 256 ∧ 0 ≤ t.j ∧ t.j < 256 ∧ Box t.s
def nx (t : St) : St :=
  let i := Int.fmod (t.i + 1) 256
  let j := Int.fmod (t.j + t.s.getD i.toNat 0) 256
  ⟨i, j, sw t.s i j⟩
/-- the octet that a state tells, behind its own turn -/
def out (t : St) : Int := t.s.getD (Int.fmod (t.s.getD t.i.toNat 0 + t.s.getD t.j.toNat 0) 256).toNat 0
def after (t : St) : Nat → St
  | 0 => t
  | n + 1 => nx (after t n)
def stream (t : St) (n : Nat) : List Int := (List.range n).map fun k => out (after t (k + 1))

theorem box0 : Box (rangeKs 0 256) := by
  refine ⟨rangeKs_length _ _, fun v hv => ?_⟩
  unfold rangeKs at hv
  obtain ⟨i, hi, rfl⟩ := List.mem_map.mp hv
  have := List.mem_range.mp hi
  omega
theorem Box.at {s : List Int} (b : Box s) (k : Nat) : 0 ≤ s.getD k 0 ∧ s.getD k 0 < 256 := by
  rw [List.getD_eq_getElem?_getD]
  cases h : s[k]? with
  | none => simp
  | some v => exact b.2 v (List.mem_of_getElem? h)
theorem Box.set {s : List Int} (b : Box s) (k : Nat) {v : Int} (h0 : 0 ≤ v) (h1 : v < 256) : Box (s.set k v) := by
  refine ⟨by rw [List.length_set]; exact b.1, fun x hx => ?_⟩
  rcases List.mem_or_eq_of_mem_set hx with h | rfl
  · exact b.2 x h
  · exact ⟨h0, h1⟩
theorem Box.sw {s : List Int} (b : Box s) (i j : Int) : Box (sw s i j) :=
  (b.set _ (b.at _).1 (b.at _).2).set _ (b.at _).1 (b.at _).2
theorem md (a : Int) : 0 ≤ Int.fmod a 256 ∧ Int.fmod a 256 < 256 := ⟨fmod_lo a (by omega), fmod_hi a (by omega)⟩
theorem ok_nx {t : St} (h : Ok t) : Ok (nx t) := ⟨(md _).1, (md _).2, (md _).1, (md _).2, h.2.2.2.2.sw _ _⟩
theorem ok_after {t : St} (h : Ok t) : ∀ n, Ok (after t n)
  | 0 => h
  | n + 1 => ok_nx (ok_after h n)
theorem after_add (t : St) (a : Nat) : ∀ b, after t (a + b) = after (after t a) b
  | 0 => rfl
  | b + 1 => by show nx (after t (a + b)) = nx (after (after t a) b); rw [after_add t a b]
theorem kst_snoc (key pre : List Int) (k : Int) : kst key (pre ++ [k]) = kstep key (kst key pre) k := by
  unfold kst; rw [List.foldl_append]; rfl
theorem kst_ok (key : List Int) : ∀ pre : List Int, 0 ≤ (kst key pre).1 ∧ (kst key pre).1 < 256 ∧ Box (kst key pre).2 := by
  intro pre
  have gen : ∀ (l : List Int) (st : Int × List Int), (0 ≤ st.1 ∧ st.1 < 256 ∧ Box st.2) → 0 ≤ (l.foldl (kstep key) st).1 ∧ (l.foldl (kstep key) st).1 < 256 ∧ Box (l.foldl (kstep key) st).2 := by
    intro l
    induction l with
    | nil => intro st h; exact h
    | cons a r ih => intro st h; exact ih _ ⟨(md _).1, (md _).2, h.2.2.sw _ _⟩
  have hb := box0
  unfold kst
  revert hb
  generalize rangeKs 0 256 = r
  intro hb
  exact gen pre (0, r) ⟨Int.le_refl 0, (by show (0 : Int) < 256; omega), hb⟩
theorem ksa_box (key : List Int) : Box (ksa key) := by
  unfold ksa
  exact (kst_ok key _).2.2
def st0 (key : List Int) : St := ⟨0, 0, ksa key⟩
theorem ok0 (key : List Int) : Ok (st0 key) := ⟨Int.le_refl 0, (by show (0 : Int) < 256; omega), Int.le_refl 0, (by show (0 : Int) < 256; omega), ksa_box key⟩
end Mine
namespace Mine
def KS (key pre : List Int) (j : Int) (s : List Int) : Prop := (j, s) = kst key pre
theorem KS.ok {key pre : List Int} {j : Int} {s : List Int} (h : KS key pre j s) : 0 ≤ j ∧ j < 256 ∧ Box s := by
  have q := kst_ok key pre
  rw [← h] at q
  exact q
theorem init_start (key : List Int) : KS key [] 0 (rangeKs 0 256) ∧ (rangeKs 0 256).length = 256 ∧ (0 : Int) ≤ 0 ∧ (0 : Int) < 256 := by
  refine ⟨?_, rangeKs_length _ _, Int.le_refl _, by omega⟩
  unfold KS kst
  rfl
theorem init_turn {key pre : List Int} {j k j' : Int} {s s' : List Int} (h : KS key pre j s) (ej : j' = Int.fmod (j + s.getD k.toNat 0 + key.getD (Int.fmod k (key.length : Int)).toNat 0) 256)
    (es : s' = sw s k j') : KS key (pre ++ [k]) j' s' ∧ s'.length = 256 ∧ 0 ≤ j' ∧ j' < 256 := by
  have q : KS key (pre ++ [k]) j' s' := by
    unfold KS at h ⊢
    rw [kst_snoc, ← h]
    subst ej es
    rfl
  exact ⟨q, q.ok.2.2.1, q.ok.1, q.ok.2.1⟩
end Mine
namespace Mine
theorem ks_end {key : List Int} {j : Int} {s : List Int} (h : KS key (rangeKs 0 (256 - 0 : Int).toNat) j s) : s = ksa key := by
  have e : (256 - 0 : Int).toNat = 256 := rfl
  rw [e] at h
  unfold ksa
  unfold KS at h
  rw [← h]
end Mine
namespace Mine
theorem xor_byte {x y : Int} (x0 : 0 ≤ x) (x1 : x < 256) (y0 : 0 ≤ y) (y1 : y < 256) : 0 ≤ Builtin.bitXor x y ∧ Builtin.bitXor x y < 256 := by
  have ea : Builtin.bitAnd x y = ((x.toNat &&& y.toNat : Nat) : Int) := by
    unfold Builtin.bitAnd
    rw [decide_eq_true x0, decide_eq_true y0]
  have eo : Builtin.bitOr x y = ((x.toNat ||| y.toNat : Nat) : Int) := by
    unfold Builtin.bitOr Builtin.bitAnd
    rw [decide_eq_false (show ¬ 0 ≤ Builtin.bitNot x by unfold Builtin.bitNot; omega), decide_eq_false (show ¬ 0 ≤ Builtin.bitNot y by unfold Builtin.bitNot; omega)]
    have n2 : ∀ z : Int, Builtin.bitNot (Builtin.bitNot z) = z := fun z => by unfold Builtin.bitNot; omega
    show Builtin.bitNot (Builtin.bitNot _) = _
    rw [n2, n2, n2]
  unfold Builtin.bitXor
  rw [ea, eo]
  have h1 : x.toNat &&& y.toNat ≤ x.toNat := Nat.and_le_left
  have h2 : x.toNat ≤ x.toNat ||| y.toNat := Nat.left_le_or
  have h3 : x.toNat ||| y.toNat < 2 ^ 8 := Nat.or_lt_two_pow (by omega) (by omega)
  omega
end Mine
namespace Mine
/-- what holds in the loop of process behind pre -/
def PW (t : St) (pre : List Int) (i j : Int) (s : List Int) (r : Array UInt8) : Prop :=
  after t pre.length = ⟨i, j, s⟩ ∧ KBw.bInts r = List.zipWith Builtin.bitXor pre (stream t pre.length)
theorem stream_len (t : St) (n : Nat) : (stream t n).length = n := by simp [stream]
theorem stream_succ (t : St) (n : Nat) : stream t (n + 1) = stream t n ++ [out (after t (n + 1))] := by simp [stream, List.range_succ]
theorem PW.box {t : St} {pre : List Int} {i j : Int} {s : List Int} {r : Array UInt8} (ok : Ok t) (h : PW t pre i j s r) : Box s := by
  have q := ok_after ok pre.length
  rw [h.1] at q
  exact q.2.2.2.2
theorem PW.size {t : St} {pre : List Int} {i j : Int} {s : List Int} {r : Array UInt8} (h : PW t pre i j s r) : r.size = pre.length := by
  rw [← KBw.ints_length, h.2, List.length_zipWith, stream_len, Nat.min_self]
theorem proc_start (t : St) (ok : Ok t) : PW t [] t.i t.j t.s #[] ∧ Box t.s ∧ t.s.length = 256 ∧ (#[] : Array UInt8).size = ([] : List Int).length :=
  ⟨⟨rfl, rfl⟩, ok.2.2.2.2, ok.2.2.2.2.1, rfl⟩
theorem proc_turn {t : St} {pre : List Int} {i j i' j' n k : Int} {s s' : List Int} {r r' : Array UInt8} (ok : Ok t) (h : PW t pre i j s r) (hn : 0 ≤ n ∧ n < 256)
    (ei : i' = Int.fmod (i + 1) 256) (ej : j' = Int.fmod (j + s.getD i'.toNat 0) 256) (es : s' = (s.set i'.toNat (s.getD j'.toNat 0)).set j'.toNat (s.getD i'.toNat 0))
    (ek : k = s'.getD (Int.fmod (s'.getD i'.toNat 0 + s'.getD j'.toNat 0) 256).toNat 0) (er : r' = r ++ byteArr [Builtin.bitXor n k]) :
    PW t (pre ++ [n]) i' j' s' r' ∧ Box s' ∧ s'.length = 256 ∧ r'.size = (pre ++ [n]).length := by
  have hb := h.box ok
  have hs : s' = sw s i' j' := es
  have hb' : Box s' := by rw [hs]; exact hb.sw _ _
  have ha : after t (pre.length + 1) = ⟨i', j', s'⟩ := by
    show nx (after t pre.length) = _
    rw [h.1]
    subst ei ej
    rw [hs]
    rfl
  have ho : out (after t (pre.length + 1)) = k := by rw [ha, ek]; rfl
  have hk : 0 ≤ k ∧ k < 256 := by rw [ek]; exact hb'.at _
  have hx := xor_byte hn.1 hn.2 hk.1 hk.2
  have q : PW t (pre ++ [n]) i' j' s' r' := by
    refine ⟨by rw [List.length_append]; exact ha, ?_⟩
    rw [er, KBw.ints_app h.2 (KBa.ints_make (ns := [Builtin.bitXor n k]) (by intro z hz; rw [List.mem_singleton.mp hz]; exact hx))]
    rw [List.length_append]
    show _ = List.zipWith _ _ (stream t (pre.length + 1))
    rw [stream_succ, List.zipWith_append (by rw [stream_len]), ho]
    rfl
  exact ⟨q, hb', hb'.1, q.size⟩
theorem xb {c : Int} {s : List Int} {a b k : Nat} (c0 : 0 ≤ c) (c1 : c < 256) (h : Box s) : 0 ≤ Builtin.bitXor c (((s.set a (s.getD b 0)).set b (s.getD a 0)).getD k 0) ∧ Builtin.bitXor c (((s.set a (s.getD b 0)).set b (s.getD a 0)).getD k 0) < 256 := by
  have q := ((h.set a (h.at b).1 (h.at b).2).set b (h.at a).1 (h.at a).2).at k
  exact xor_byte c0 c1 q.1 q.2
end Mine
end PartPlain

section PartPlain2
open PySem PySem.W PyProof.Rows
namespace Mine
theorem look_put (c : List (Int × Int)) (k v j d : Int) : kdfLook (kdfPut c k v) j d = if j = k then v else kdfLook c j d := by
  unfold kdfLook kdfPut
  by_cases hc : (c.any fun p => decide (p.1 = k)) = true
  · rw [if_pos hc]
    induction c with
    | nil => simp at hc
    | cons p c ih =>
      obtain ⟨a, b⟩ := p
      rw [List.map_cons, List.find?_cons, List.find?_cons]
      by_cases hak : a = k
      · subst hak
        by_cases hj : j = a
        · subst hj; simp
        · have hj' : ¬ a = j := fun e => hj e.symm
          by_cases hr : (c.any fun p => decide (p.1 = a)) = true
          · have := ih hr
            simp [hj, hj'] at this ⊢
            exact this
          · have hm : c.map (fun p => if decide (p.1 = a) = true then (p.1, v) else p) = c := by
              rw [List.map_congr_left (g := fun p => p)]
              · simp
              · intro p hp
                rw [if_neg]
                intro e
                exact hr (List.any_eq_true.mpr ⟨p, hp, e⟩)
            rw [hm]
            simp [hj, hj']
      · have hr : (c.any fun p => decide (p.1 = k)) = true := by simpa [hak] using hc
        have := ih hr
        by_cases haj : a = j
        · subst haj
          have hne : ¬ a = k := hak
          simp [hak]
        · simp [hak, haj] at this ⊢
          exact this
  · rw [if_neg hc, List.find?_append]
    have hn : ∀ p ∈ c, ¬ p.1 = k := by
      intro p hp e
      exact hc (List.any_eq_true.mpr ⟨p, hp, by simp [e]⟩)
    by_cases hj : j = k
    · subst hj
      have : c.find? (fun p => decide (p.1 = j)) = none := by
        rw [List.find?_eq_none]
        intro p hp
        simpa using hn p hp
      rw [this]
      simp
    · have hj' : ¬ k = j := fun e => hj e.symm
      cases hf : c.find? (fun p => decide (p.1 = j)) with
      | none => simp [hj, hj']
      | some q => simp [hj]
/-- the dict of what has moved reads as the box -/
def Rel (mv : List (Int × Int)) (s : List Int) : Prop := ∀ k : Int, 0 ≤ k → k < 256 → kdfLook mv k k = s.getD k.toNat 0
theorem rel_nil : Rel [] (rangeKs 0 256) := by
  intro k h0 h1
  rw [kll_at (by omega)]
  show k = _
  omega
theorem getD_set {s : List Int} {a b : Nat} {v : Int} (h : a < s.length) : (s.set a v).getD b 0 = if b = a then v else s.getD b 0 := by
  rw [List.getD_eq_getElem?_getD, List.getD_eq_getElem?_getD, List.getElem?_set]
  by_cases e : a = b
  · subst e
    rw [if_pos rfl, if_pos h, if_pos rfl]
    rfl
  · rw [if_neg e, if_neg (fun q => e q.symm)]
theorem sw_at {s : List Int} {i j : Int} {k : Nat} (hi : i.toNat < s.length) (hj : j.toNat < s.length) : (sw s i j).getD k 0 = if k = j.toNat then s.getD i.toNat 0 else if k = i.toNat then s.getD j.toNat 0 else s.getD k 0 := by
  unfold sw
  rw [getD_set (by rw [List.length_set]; exact hj), getD_set hi]
theorem rel_put {mv : List (Int × Int)} {s : List Int} {i j : Int} (h : Rel mv s) (hs : s.length = 256) (i0 : 0 ≤ i) (i1 : i < 256) (j0 : 0 ≤ j) (j1 : j < 256) :
    Rel (kdfPut (kdfPut mv i (kdfLook mv j j)) j (kdfLook mv i i)) (sw s i j) := by
  intro k k0 k1
  rw [look_put, look_put, sw_at (by omega) (by omega), h i i0 i1, h j j0 j1, h k k0 k1]
  by_cases ej : k = j
  · rw [if_pos ej, if_pos (by rw [ej])]
  · rw [if_neg ej, if_neg (show ¬ k.toNat = j.toNat by omega)]
    by_cases ei : k = i
    · rw [if_pos ei, if_pos (by rw [ei])]
    · rw [if_neg ei, if_neg (show ¬ k.toNat = i.toNat by omega)]
theorem put2_len (mv : List (Int × Int)) (a b c d : Int) : (kdfPut (kdfPut mv a b) c d).length ≤ mv.length + 2 := by
  have h1 := kdfPut_len (kdfPut mv a b) c d
  have h2 := kdfPut_len mv a b
  omega
/-- the first loop of the law's own stream -/
def LS (key pre : List Int) (j : Int) (mv : List (Int × Int)) : Prop := ∃ s, KS key pre j s ∧ Rel mv s
theorem ls_start (key : List Int) : LS key [] 0 [] ∧ ([] : List (Int × Int)).length ≤ 2 * ([] : List Int).length := ⟨⟨_, (init_start key).1, rel_nil⟩, Nat.le_refl _⟩
theorem ls_turn {key pre : List Int} {j k j' : Int} {mv mv' : List (Int × Int)} (h : LS key pre j mv) (hl : mv.length ≤ 2 * pre.length) (ek : k = 0 + (pre.length : Int)) (hlt : pre.length < (256 - 0 : Int).toNat)
    (ej : j' = Int.fmod (j + kdfLook mv k k + key.getD (Int.fmod k (key.length : Int)).toNat 0) 256) (em : mv' = kdfPut (kdfPut mv k (kdfLook mv j' j')) j' (kdfLook mv k k)) :
    LS key (pre ++ [k]) j' mv' ∧ mv'.length ≤ 2 * (pre ++ [k]).length := by
  obtain ⟨s, hs, hr⟩ := h
  have hlt' : pre.length < 256 := hlt
  have k0 : 0 ≤ k := by omega
  have k1 : k < 256 := by omega
  have hj : 0 ≤ j' ∧ j' < 256 := by rw [ej]; exact md _
  refine ⟨⟨sw s k j', (init_turn hs (by rw [ej, hr k k0 k1]) rfl).1, ?_⟩, ?_⟩
  · rw [em]
    exact rel_put hr hs.ok.2.2.1 k0 k1 hj.1 hj.2
  · rw [em, List.length_append, List.length_singleton]
    have := put2_len mv k (kdfLook mv j' j') j' (kdfLook mv k k)
    omega
theorem ls_end {key : List Int} {j : Int} {mv : List (Int × Int)} (h : LS key (rangeKs 0 (256 - 0 : Int).toNat) j mv) : Rel mv (ksa key) := by
  obtain ⟨s, hs, hr⟩ := h
  rw [← ks_end hs]
  exact hr
/-- the second loop -/
def MS (t : St) (pre : List Int) (i j : Int) (told : List Int) (mv : List (Int × Int)) : Prop := ∃ s, after t pre.length = ⟨i, j, s⟩ ∧ Rel mv s ∧ told = stream t pre.length
theorem ms_start {key : List Int} {mv : List (Int × Int)} (h : Rel mv (ksa key)) (hl : mv.length ≤ 2 * (rangeKs 0 (256 - 0 : Int).toNat).length) : MS (st0 key) [] 0 0 [] mv ∧ mv.length ≤ 512 + 2 * ([] : List Int).length ∧ ([] : List Int).length = ([] : List Int).length := by
  refine ⟨⟨ksa key, rfl, h, rfl⟩, ?_, rfl⟩
  rw [rangeKs_length] at hl
  exact hl
theorem ms_turn {t : St} {pre : List Int} {i j i' j' k : Int} {told told' : List Int} {mv mv' : List (Int × Int)} (ok : Ok t) (h : MS t pre i j told mv) (hl : mv.length ≤ 512 + 2 * pre.length) (ht : told.length = pre.length)
    (ei : i' = Int.fmod (i + 1) 256) (ej : j' = Int.fmod (j + kdfLook mv i' i') 256) (em : mv' = kdfPut (kdfPut mv i' (kdfLook mv j' j')) j' (kdfLook mv i' i'))
    (et : told' = told ++ [kdfLook mv' (Int.fmod (kdfLook mv i' i' + kdfLook mv j' j') 256) (Int.fmod (kdfLook mv i' i' + kdfLook mv j' j') 256)]) :
    MS t (pre ++ [k]) i' j' told' mv' ∧ mv'.length ≤ 512 + 2 * (pre ++ [k]).length ∧ told'.length = (pre ++ [k]).length := by
  obtain ⟨s, hs, hr, he⟩ := h
  have hi : 0 ≤ i' ∧ i' < 256 := by rw [ei]; exact md _
  have hj : 0 ≤ j' ∧ j' < 256 := by rw [ej]; exact md _
  have hb : Box s := by
    have q := ok_after ok pre.length
    rw [hs] at q
    exact q.2.2.2.2
  have hb1 := hb.1
  have hr' : Rel mv' (sw s i' j') := by
    rw [em]
    exact rel_put hr hb.1 hi.1 hi.2 hj.1 hj.2
  have e1 : nx ⟨i, j, s⟩ = ⟨i', j', sw s i' j'⟩ := by
    unfold nx
    show (⟨Int.fmod (i + 1) 256, Int.fmod (j + s.getD (Int.fmod (i + 1) 256).toNat 0) 256, _⟩ : St) = _
    rw [← ei, ← hr i' hi.1 hi.2, ← ej]
  have ha : after t (pre.length + 1) = ⟨i', j', sw s i' j'⟩ := by
    show nx (after t pre.length) = _
    rw [hs, e1]
  have ho : out (after t (pre.length + 1)) = kdfLook mv' (Int.fmod (kdfLook mv i' i' + kdfLook mv j' j') 256) (Int.fmod (kdfLook mv i' i' + kdfLook mv j' j') 256) := by
    rw [ha, hr' _ (md _).1 (md _).2]
    unfold out
    show (sw s i' j').getD (Int.fmod ((sw s i' j').getD i'.toNat 0 + (sw s i' j').getD j'.toNat 0) 256).toNat 0 = _
    have q1 : (sw s i' j').getD i'.toNat 0 = s.getD j'.toNat 0 := by
      rw [sw_at (by omega) (by omega)]
      by_cases e : i'.toNat = j'.toNat
      · rw [if_pos e, e]
      · rw [if_neg e, if_pos rfl]
    have q2 : (sw s i' j').getD j'.toNat 0 = s.getD i'.toNat 0 := by rw [sw_at (by omega) (by omega), if_pos rfl]
    rw [q1, q2, hr i' hi.1 hi.2, hr j' hj.1 hj.2, Int.add_comm (s.getD j'.toNat 0)]
  refine ⟨⟨_, by rw [List.length_append]; exact ha, hr', ?_⟩, ?_, ?_⟩
  · rw [et, List.length_append, List.length_singleton, stream_succ, ← he, ho]
  · rw [em, List.length_append, List.length_singleton]
    have := put2_len mv i' (kdfLook mv j' j') j' (kdfLook mv i' i')
    omega
  · rw [et, List.length_append, List.length_append, ht]
    rfl
theorem ms_end {t : St} {a : Int} {n : Nat} {i j : Int} {told : List Int} {mv : List (Int × Int)} (h : MS t (rangeKs a n) i j told mv) : told = stream t n := by
  obtain ⟨s, hs, hr, he⟩ := h
  rw [rangeKs_length] at he
  exact he
end Mine
namespace Mine
/-- what holds in the law's while -/
def WP (key msg told : List Int) (pl tu i j : Int) (S : List Int) : Prop :=
  0 ≤ pl ∧ pl ≤ (msg.length : Int) ∧ 0 ≤ tu ∧ after (st0 key) pl.toNat = ⟨i, j, S⟩ ∧ told = List.zipWith Builtin.bitXor (msg.take pl.toNat) (stream (st0 key) pl.toNat)
theorem wp_start (key msg : List Int) : WP key msg [] 0 0 0 0 (ksa key) := ⟨Int.le_refl 0, Int.natCast_nonneg _, Int.le_refl 0, rfl, rfl⟩
theorem WP.ok {key msg told : List Int} {pl tu i j : Int} {S : List Int} (h : WP key msg told pl tu i j S) : Ok ⟨i, j, S⟩ := by
  have q := ok_after (ok0 key) pl.toNat
  rw [h.2.2.2.1] at q
  exact q
theorem WP.len {key msg told : List Int} {pl tu i j : Int} {S : List Int} (h : WP key msg told pl tu i j S) : (told.length : Int) = pl := by
  obtain ⟨h0, h1, _, _, h4⟩ := h
  rw [h4, List.length_zipWith, stream_len, List.length_take]
  omega
end Mine
namespace Mine
theorem in_td {ns : List Int} (h : KBa.In ns) (a b : Nat) : KBa.In (List.take a (List.drop b ns)) := fun n hn => h n (List.mem_of_mem_drop (List.mem_of_mem_take hn))
theorem in_fm {ns : List Int} : KBa.In (ns.map fun k => Int.fmod k 256) := by
  intro n hn
  obtain ⟨k, _, rfl⟩ := List.mem_map.mp hn
  exact md _
theorem in_app {a b : List Int} (ha : KBa.In a) (hb : KBa.In b) : KBa.In (a ++ b) := fun n hn => (List.mem_append.mp hn).elim (ha n) (hb n)
end Mine
namespace Mine
theorem stream_add (t : St) (a : Nat) : ∀ b, stream t (a + b) = stream t a ++ stream (after t a) b
  | 0 => by
    show stream t a = stream t a ++ []
    rw [List.append_nil]
  | b + 1 => by
    rw [← Nat.add_assoc, stream_succ, stream_add t a b, stream_succ, List.append_assoc]
    show _ ++ (_ ++ [out (after t (a + (b + 1)))]) = _
    rw [after_add]
theorem wp_turn {key msg told told' ol part : List Int} {pl tu pl' tu' i j i' j' : Int} {S S' : List Int} {b' : Array UInt8} {a : Nat} (hW : WP key msg told pl tu i j S) (hP : PW ⟨i, j, S⟩ part i' j' S' b') (hol : KBw.bInts b' = ol)
    (hp : part = List.take a (List.drop pl.toNat msg)) (epl : pl' = pl + (part.length : Int)) (etu : tu' = tu + 1) (et : told' = told ++ ol) : WP key msg told' pl' tu' i' j' S' := by
  obtain ⟨h0, h1, h2, h3, h4⟩ := hW
  have hlen : part.length ≤ msg.length - pl.toNat := by rw [hp, List.length_take, List.length_drop]; omega
  have en : pl'.toNat = pl.toNat + part.length := by omega
  have hpart : part = List.take part.length (List.drop pl.toNat msg) := by
    conv => lhs; rw [hp]
    rw [hp, List.length_take, List.take_eq_take_iff]
    omega
  refine ⟨by omega, by omega, by omega, ?_, ?_⟩
  · rw [en, after_add, h3]
    exact hP.1
  · rw [et, en, stream_add, h3, List.take_add, ← hpart, List.zipWith_append (by rw [stream_len, List.length_take]; omega), ← h4, ← hol, hP.2]
theorem meas {n pl tu : Int} {k : Nat} (h : pl + (k : Int) ≤ n) (ht : 0 ≤ tu) (hk : 1 ≤ k ∨ ¬ Int.fmod tu 3 = 2) :
    (3 * (n - (pl + (k : Int))) + (2 - Int.fmod (tu + 1) 3)).toNat < (3 * (n - pl) + (2 - Int.fmod tu 3)).toNat := by
  rw [Int.fmod_eq_emod_of_nonneg _ (by omega)] at hk ⊢
  rw [Int.fmod_eq_emod_of_nonneg _ (by omega)]
  omega
theorem bytes_some {l : List Int} (h : ((byteArr l).toList == (#[] : Array UInt8).toList) = false) : 1 ≤ l.length := by
  cases l with
  | nil => exact absurd h (by decide)
  | cons a r => rw [List.length_cons]; omega
end Mine
end PartPlain2

section PartPlain3
open PySem PySem.W PyProof.Rows
namespace Mine
theorem zip_range (a b : List Int) (n : Nat) (ha : a.length = n) (hb : b.length = n) :
    List.zipWith Builtin.bitXor a b = List.map (fun k : Int => Builtin.bitXor (a.getD k.toNat 0) (b.getD k.toNat 0)) (rangeKs 0 n) := by
  apply List.ext_getElem
  · rw [List.length_zipWith, List.length_map, rangeKs_length]; omega
  · intro i h1 h2
    rw [List.getElem_zipWith, List.getElem_map]
    have h3 : i < n := by rw [List.length_map, rangeKs_length] at h2; exact h2
    have e : ((rangeKs 0 n)[i]'(by rw [rangeKs_length]; exact h3)).toNat = i := by
      unfold rangeKs
      rw [List.getElem_map, List.getElem_range]
      omega
    rw [e, List.getD_eq_getElem?_getD, List.getD_eq_getElem?_getD, List.getElem?_eq_getElem (by omega), List.getElem?_eq_getElem (by omega)]
    rfl
theorem wp_end {key msg told : List Int} {pl tu i j : Int} {S : List Int} (h : WP key msg told pl tu i j S) (ha : ¬ pl < (msg.length : Int)) :
    told = List.map (fun k : Int => Builtin.bitXor (msg.getD k.toNat 0) ((stream (st0 key) msg.length).getD k.toNat 0)) (rangeKs 0 ((msg.length : Int) - 0).toNat) := by
  obtain ⟨h0, h1, _, _, h4⟩ := h
  have e : pl.toNat = msg.length := by omega
  have e2 : ((msg.length : Int) - 0).toNat = msg.length := by omega
  rw [h4, e, e2, List.take_of_length_le (Nat.le_refl _)]
  exact zip_range _ _ _ rfl (stream_len _ _)
end Mine
end PartPlain3

section PartIter
open PySem PySem.W PyProof.Rows PySem.Calls PySem.Spec PyProof.V
set_option maxRecDepth 100000
namespace Mine
section
variable {prog : Program} {w : World} {A : Around} {E : Value → Shared → Prop} {s : Shared} {env : Env} {h₀ : Heap} {L : Addr} {x : PySem.Str} {body : List Stmt} {news : List (Addr × Obj)} {m : PySem.Str → Option Value}
/-- iter(b) of bytes: an iterator that stands off the frame and off the ledger -/
theorem iter_bytes {b : Array UInt8} {t : Tok} {Q : Value → Shared → Prop} (F : Fr h₀ L s.heap m) (N : News h₀ L s.heap news)
    (h : ∀ I h', Fr h₀ L h' m → News h₀ L h' news → KBw.IsBytesIter h' I b t 0 → L ≠ I → h₀.get? I = none → (∀ p ∈ news, p.1 ≠ I) → Q (.ref I) { s with heap := h' }) :
    wpAny (model prog w) A (call (.builtin "iter") [.bytes b t]) Q E s := by
  have one : someArgs "iter" 1 2 ⟨[Value.bytes b t], []⟩ = pure [Value.bytes b t] := by first | rfl | kernel_rfl!
  have ne : ∀ {a : Addr}, a < s.heap.objs.size → a ≠ s.heap.objs.size := fun q => Nat.ne_of_lt q
  refine call_function_entry (by decide +kernel) (by decide +kernel) kdk_entry_iter (kdk_args_iter _) ?_
  unfold Builtin.«iter»
  repeat (first
    | refine wpAny_of_eq one ?_
    | refine KBw.pyIter_bytes ?_
    | refine wpAny_pure ?_
    | refine wpAny_bind ?_)
  exact ⟨_, rfl, h _ _ (F.push _) (fun p hp => ⟨Heap.get?_push_of_some _ (N p hp).1, (N p hp).2⟩) ⟨_, Heap.get?_push_size _ rfl, rfl, rfl⟩ (ne F.ns.lt) (next_is_new F) fun p hp => ne (Heap.lt_size (N p hp).1)⟩
/-- a for over an iterator of octets that stands: by what holds (P) of the octets taken -/
theorem octets_for {σ : Type} {I : Addr} {b : Array UInt8} {ks : List Int} {tb : Tok} {m₀ : PySem.Str → Option Value} {Q : Flow → Shared → Prop} (Led : σ → List (Addr × Obj)) (ps : σ → List (PySem.Str × Value)) (Facts : σ → Prop) (stored : List PySem.Str) (P : List Int → σ → Prop) (c₀ : σ)
    (hit : KBw.IsBytesIter s.heap I b tb 0) (hL : env.locals ≠ I) (h0 : h₀.get? I = none) (hn : ∀ p ∈ Led c₀, p.1 ≠ I)
    (hb : KBw.bInts b = ks) (hh : A.handled = none) (F : Fr h₀ env.locals s.heap m₀) (N : News h₀ env.locals s.heap (Led c₀)) (hf : Facts c₀) (hk : ∀ p ∈ ps c₀, m₀ p.1 = some p.2) (hp : P [] c₀)
    (turn : ∀ (c : σ) (i : Nat) (n : Int) t (u : PySem.Str → Option Value) h tk own, ks[i]? = some n → 0 ≤ n → n < 256 → OwnOff own ((Led c₀).map (·.1)) → Facts c → P (ks.take i) c →
      Fr h₀ env.locals h (fun y => if y = x then some (.int n t) else kstB (fun z => if stored.contains z then u z else m₀ z) (ps c) y) → News h₀ env.locals h (Led c ++ own) →
      wpAny (model prog w) A (execs body env) (InvPostN h₀ env.locals (KstS Led ps Facts x stored m₀ P (ks.take (i + 1))) own ((Led c₀).map (·.1)) { s with heap := h, toks := tk } Q) E { s with heap := h, toks := tk })
    (done : ∀ (c : σ) (u : PySem.Str → Option Value) h tk, Facts c → P ks c → Fr h₀ env.locals h (fun y => if y = x then u y else kstB (fun z => if stored.contains z then u z else m₀ z) (ps c) y) → News h₀ env.locals h (Led c) → Q .next { s with heap := h, toks := tk }) :
    wpAny (model prog w) A (pyIter (.ref I)) (fun it s₂ => LoopAtV prog w A h₀ env x body Q E it s₂) E s := by
  subst hb
  have off : ∀ {a : Addr}, a ≠ I → a ∉ [I] := fun q q' => q (List.mem_singleton.mp q')
  have whole : (KBw.bInts b).take b.size = KBw.bInts b := List.take_of_length_le (Nat.le_of_eq (KBw.ints_length b))
  have loop : LoopAtV prog w A h₀ env x body Q E (.ref I) s := by
    refine loop_invN (fun i m nx => KstS Led ps Facts x stored m₀ P ((KBw.bInts b).take i) m nx) (KBw.walks hh I b tb) (off hL) (fun a q => (List.mem_singleton.mp q) ▸ h0) (fun p q => off (hn p q)) (fun p q => off (hn p q)) hit F N
      ⟨c₀, rfl, hf, hk, fun _ _ _ _ => rfl, hp⟩ ?one ?last
    case one =>
      intro i v m₁ nx h tk own _ hv _ ho hj F₁ N₁
      obtain ⟨n, u, hn, rfl⟩ := hv
      obtain ⟨c, rfl, j1, j2, j3, j4⟩ := hj
      have at_ := KBw.ints_get hn
      have lim := KBw.ints_in (List.mem_of_getElem? at_)
      exact turn c i n.toNat u m₁ h tk own at_ lim.1 lim.2 ho j1 j4 (kst_fr j2 j3 F₁) N₁
    case last =>
      intro m₁ nx h tk hj F₁ N₁
      obtain ⟨c, rfl, j1, j2, j3, j4⟩ := hj
      exact done c m₁ h tk j1 (whole ▸ j4) (kst_frOut j2 j3 F₁) N₁
  obtain ⟨J, fp, wr, n, Pw, St, m₁, nw, Jw, e, W, r1, r2, r3, st, r⟩ := id loop
  cases e
  exact W.self 0 s _ _ st loop
end
end Mine
end PartIter

section PartBytesTup
open PySem PySem.W PyProof.Rows
set_option maxRecDepth 100000
namespace Mine
open PySem.Calls PySem.Spec
theorem bt_look : typeLookup (.type "tuple") "__bytes__" = pure none ∧ typeLookup (.type "tuple") "__index__" = pure none ∧ typeLookup (.type "tuple") "__buffer__" = pure none := by
  refine ⟨?_, ?_, ?_⟩ <;> (rw [typeLookup_type, builtinLookup_eq_fast]; kernel_rfl)
theorem bt_split : splitId "tuple.__len__" = some ("tuple", "__len__") := by decide +kernel
theorem bt_sub : isSubtype (.type "tuple") (.type "tuple") = pure true := by rw [isSubtype_type]; kernel_rfl
section
variable {prog : Program} {w : World} {A : Around} {E : Value → Shared → Prop} {s : Shared}
/-- the place of the tuple's iterator, and of the octets, behind the two that are made -/
abbrev btIt (l : Addr) : Obj := { cls := .type "tuple_iterator", data := .fields #[.ref l, .int 0 0] }
abbrev btBox (b : Array UInt8) : Obj := { cls := .type "bytearray", data := .bytearray b }
set_option maxHeartbeats 2000000 in
theorem bt_new {l : Addr} {n : Int} {t : Tok} {R : Result → Shared → Prop} (hl : IsTup s.heap l #[.int n t]) 
    (hR : codeAny (model prog w) A (.builtin "bytes.__new__.loop" ⟨[.type "bytes", .ref s.heap.objs.size, .ref (s.heap.push (btIt l)).objs.size], []⟩) R { s with heap := (s.heap.push (btIt l)).push (btBox #[]) }) :
    codeAny (model prog w) A (.builtin "bytes.__new__" ⟨[.type "bytes", .ref l], []⟩) R s := by
  refine codeAny_builtin PySem.F.bm_entry ?_
  rw [Around.under_plainId PySem.F.bm_plain _]
  obtain ⟨q1, q2, q3⟩ := bt_look
  have T0 : s.TypeIs (.ref l) "tuple" := hl.typeIs
  have T1 : ({ s with heap := s.heap.push (btIt l) } : Shared).TypeIs (.ref l) "tuple" := IsTup.typeIs (s := { s with heap := s.heap.push (btIt l) }) (hl.push _)
  obtain ⟨o, ho, hc, k, hd⟩ := id hl
  unfold Builtin.«bytes.__new__»
  repeat (first
    | with_reducible refine wpAny_pure ?_
    | with_reducible refine wpAny_bind ?_
    | with_reducible refine wpAny_of_eq PySem.F.bm_sub ?_
    | with_reducible refine wpAny_of_eq (PySem.F.bm_bind _) ?_
    | with_reducible refine wpAny_specialOf T0 q1 ?_
    | with_reducible refine wpAny_specialOf T0 q2 ?_
    | with_reducible refine wpAny_specialOf T0 q3 ?_
    | with_reducible refine wpAny_specialOf T1 slot_tuple_len.lookup ?_
    | with_reducible refine wpAny_isInstance T1 bt_sub ?_
    | with_reducible refine wpAny_holding ?_
    | refine wpAny_load ho ?_
    | refine wpAny_tryCatch (iter_tuple hl ?_)
    | (with_reducible refine bm_if_false ?no ?_; (case no => rfl))
    | (with_reducible refine bm_if_true ?yes ?_; (case yes => decide +kernel))
    | refine wpAny_newObj_type ?_ (Nat.zero_le _)
    | rw [hd]
    | (dsimp only; rw [bt_split]; dsimp only)
    | refine wpAny_of_eq (a := true) rfl ?_
    | refine wpAny_of_eq (a := ()) rfl ?_
    | refine wpAny_bind ?_)
  exact wpAny_pure ⟨plainId_quiet PySem.F.bm_plain_loop _, hR⟩
theorem bt_draw {R : Result → Shared → Prop} {l I S : Addr} {n : Int} {t : Tok} (hh : A.handled = none) (h0 : 0 ≤ n) (h1 : n < 256) (a1 : I ≠ S) (a2 : l ≠ I) (a3 : l ≠ S)
    (hl : IsTup s.heap l #[.int n t]) (hit : IsTupIter s.heap I l 0) (hS : s.heap.get? S = some (btBox #[]))
    (hR : ∀ h' t' k', (∀ b, b ≠ I → b ≠ S → ∀ o, s.heap.get? b = some o → h'.get? b = some o) → R (.ok (.ret (.bytes (byteArr [n]) t'))) { s with heap := h', toks := k' }) :
    codeAny (model prog w) A (.builtin "bytes.__new__.loop" ⟨[.type "bytes", .ref I, .ref S], []⟩) R s := by
  refine codeAny_builtin PySem.F.bm_entry_loop ?_
  rw [Around.under_plainId PySem.F.bm_plain_loop _]
  unfold Builtin.«bytes.__new__.loop»
  have hx : (#[Value.int n t] : Array Value)[0]? = some (.int n t) := rfl
  have hr : (decide (n < 0) || decide (n ≥ 256)) = false := by simp only [Bool.or_eq_false_iff, decide_eq_false_iff_not]; omega
  repeat (first
    | with_reducible refine wpAny_bind ?_
    | refine next_tuple_item hit hl hx fun g gi gs => ?_
    | with_reducible refine wpAny_holding ?_
    | with_reducible refine wpAny_letGo ?_
    | with_reducible refine bm_if_false hr ?_
    | refine wpAny_load ((gs.2 S (Ne.symm a1)).trans hS) ?_
    | refine wpAny_update ((gs.2 S (Ne.symm a1)).trans hS) ?_
    | refine wpAny_of_eq (rfl : asIndex (.int n t) = pure n) ?_
    | refine wpAny_bind ?_)
  have hone : (byteArr [n]).size ≤ sizeLine := by rw [byteArr_size, sizeLine_eq, List.length_singleton]; omega
  have g2 : (g.update S (Obj.mapBytearray fun x => x.push n.toNat.toUInt8)).get? S = some (btBox (byteArr [n])) := Heap.get?_update_self (Obj.mapBytearray fun x => x.push n.toNat.toUInt8) ((gs.2 S (Ne.symm a1)).trans hS) rfl
  have g3 : ∀ b, b ≠ I → b ≠ S → ∀ o, s.heap.get? b = some o → (g.update S (Obj.mapBytearray fun x => x.push n.toNat.toUInt8)).get? b = some o := by
    intro b b1 b2 o e
    rw [Heap.get?_update_other _ _ (Ne.symm b2), gs.2 b b1]
    exact e
  have g4 : IsTup (g.update S (Obj.mapBytearray fun x => x.push n.toNat.toUInt8)) l #[.int n t] := by
    obtain ⟨o, ho, r⟩ := hl
    exact ⟨o, g3 l a2 a3 o ho, r⟩
  have g5 : IsTupIter (g.update S (Obj.mapBytearray fun x => x.push n.toNat.toUInt8)) I l 1 := by
    obtain ⟨o, ho, r⟩ := gi
    exact ⟨o, (Heap.get?_update_other _ _ (Ne.symm a1)).trans ho, r⟩
  have hline : (Data.bytearray (byteArr [n])).pastItsLine = none := by
    unfold Data.pastItsLine
    exact if_neg (Nat.not_lt.mpr hone)
  refine wpAny_load g2 ?_
  dsimp only [btBox]
  rw [hline]
  refine wpAny_pure (wpAny_pure ⟨plainId_quiet PySem.F.bm_plain_loop _, ?_⟩)
  clear gi gs hit hS hl
  revert g2 g3 g4 g5
  generalize g.update S (Obj.mapBytearray fun x => x.push n.toNat.toUInt8) = g'
  intro g2 g3 g4 g5
  refine codeAny_builtin PySem.F.bm_entry_loop ?_
  rw [Around.under_plainId PySem.F.bm_plain_loop _]
  unfold Builtin.«bytes.__new__.loop»
  have hx : (#[Value.int n t] : Array Value)[1]? = none := rfl
  repeat (first
    | with_reducible refine wpAny_pure ?_
    | with_reducible refine wpAny_bind ?_
    | refine next_tuple_end hh g5 g4 hx fun f fk => ?_
    | refine wpAny_load (fk S _ (Ne.symm a1) g2) ?_
    | with_reducible refine wpAny_mkBytes ?_ hone
    | (with_reducible refine bm_if_true ?yes ?_; (case yes => decide))
    | refine wpAny_bind ?_)
  exact wpAny_pure <| hR f _ _ fun b b1 b2 o e => fk b o b1 (g3 b b1 b2 o e)
/-- bytes((n,)) of one octet -/
theorem bt_call {l : Addr} {n : Int} {t : Tok} {Q : Value → Shared → Prop} (hh : A.handled = none) (h0 : 0 ≤ n) (h1 : n < 256) (hl : IsTup s.heap l #[.int n t])
    (hQ : ∀ h' t' k', (∀ b o, s.heap.get? b = some o → h'.get? b = some o) → Q (.bytes (byteArr [n]) t') { s with heap := h', toks := k' }) : wpAny (model prog w) A (call (.type "bytes") [.ref l]) Q E s := by
  refine callType_codes (Q₁ := fun v s' => s'.TypeIs v "bytes" ∧ Q v s') PySem.F.bm_called (PySem.F.bm_typeCall _) PySem.F.entry_object_init (codeAny_of_tree ?_)
    (fun v s' q => ⟨q.1, PySem.F.args_object_init_2 v _, object_init_meets PySem.F.bm_called.init.lookup PySem.F.bm_called.made (by decide) prog w A.in1 _ s' ⟨q.1, rfl, q.2⟩⟩)
  refine wpAny_bind (wpAny_of_eq (PySem.F.bm_newCall _) (wpAny_pure ⟨plainId_quiet PySem.F.bm_plain _, bt_new hl ?_⟩))
  have i0 : (s.heap.push (btIt l)).objs.size = s.heap.objs.size + 1 := Heap.size_push _ _
  obtain ⟨o, ho, r⟩ := hl
  have i1 : @LT.lt Nat _ l s.heap.objs.size := Heap.lt_size ho
  have lift : ∀ b o, s.heap.get? b = some o → ((s.heap.push (btIt l)).push (btBox #[])).get? b = some o := fun b o e => Heap.get?_push_of_some _ (Heap.get?_push_of_some _ e)
  refine bt_draw (s := { s with heap := (s.heap.push (btIt l)).push (btBox #[]) }) hh h0 h1 (by refine neN ?_; omega) (by refine neN ?_; omega) (by refine neN ?_; omega) ⟨o, lift _ _ ho, r⟩ ⟨btIt l, Heap.get?_push_of_some _ (Heap.get?_push_size _ rfl), rfl, rfl⟩ (Heap.get?_push_size _ rfl) fun h' t' k' keep => ?_
  refine ⟨PySem.W.typeIs_bytes _ _ _, hQ h' t' k' fun b o e => ?_⟩
  have i2 : @LT.lt Nat _ b s.heap.objs.size := Heap.lt_size e
  exact keep b (by refine neN ?_; omega) (by refine neN ?_; omega) o (lift b o e)
end
/-- bytes((n,)) over a frame -/
theorem bytes_one {prog : Program} {w : World} {A : Around} {E : Value → Shared → Prop} {s : Shared} {h₀ : Heap} {L l : Addr} {m : Str → Option Value} {news : List (Addr × Obj)} {n : Int} {t : Tok} {k : Nat} {Q : Value → Shared → Prop}
    (F : Fr h₀ L s.heap m) (N : News h₀ L s.heap news) (hm : (l, { cls := .type "tuple", data := .seq #[.int n t] k }) ∈ news) (h0 : 0 ≤ n) (h1 : n < 256) (hh : A.handled = none)
    (h : ∀ h' t' k', Fr h₀ L h' m → News h₀ L h' news → KBw.bInts (byteArr [n]) = [n] → Q (.bytes (byteArr [n]) t') { s with heap := h', toks := k' }) : wpAny (model prog w) A (call (.type "bytes") [.ref l]) Q E s :=
  bt_call hh h0 h1 ⟨_, (N _ hm).1, rfl, k, rfl⟩ fun h' t' k' hk => h h' t' k' (F.keeps hk) (fun q hq => ⟨hk _ _ (N q hq).1, (N q hq).2⟩) (KBa.ints_make (by intro x hx; rw [List.mem_singleton.mp hx]; exact ⟨h0, h1⟩))
end Mine
namespace Mine
theorem noI_bytes_add : typeLookup (.type "bytes") (dunderI "add") = pure none := by rw [typeLookup_type, builtinLookup_eq_fast]; kernel_rfl
/-- b += c of bytes: an empty side gives the other one back as it is -/
theorem iadd_bytes {prog : Program} {w : World} {A : Around} {E : Value → Shared → Prop} {s : Shared} {b c : Array UInt8} {t u : Tok} {Q : Value → Shared → Prop} (hsz : b.size + c.size ≤ 16777216) (h : ∀ t' k, Q (.bytes (b ++ c) t') { s with toks := k }) :
    wpAny (model prog w) A (inplaceOp .Add (.bytes b t) (.bytes c u)) Q E s := by
  refine iconcat_gives (typeIs_bytes s b t) (typeIs_bytes s c u) noI_bytes_add KBy.noFill_bytes_add KBy.seq_bytes_add FB.slot_bytes_add FB.entry_bytes_add (FB.args_bytes_add_2 _ _) (KBy.gives_bytes_add (KBy.tooLong_not hsz)) ?_
  have left := h u s.toks
  have right := h t s.toks
  cases eb : b.isEmpty with
  | true =>
    rw [show b ++ c = c by simp [Array.isEmpty_iff.mp eb]] at left
    exact left
  | false =>
    cases ec : c.isEmpty with
    | true =>
      rw [show b ++ c = b by simp [Array.isEmpty_iff.mp ec]] at right
      exact right
    | false => exact ⟨by simpa [sizeLine_eq] using hsz, h _ _⟩
end Mine
end PartBytesTup

section PartListBytes
open PySem PySem.W PyProof.Rows
set_option maxRecDepth 100000
namespace Mine
open PySem.Calls PySem.Spec
/-- what stands at place i of the octets b, as a value -/
def Octet (b : Array UInt8) (i : Nat) (v : Value) : Prop := ∃ c u, b[i]? = some c ∧ v = .int (c.toNat : Int) u
section
variable {prog : Program} {w : World} {A : Around} {E : Value → Shared → Prop} {s : Shared}
/-- octets hint at no room: their len is silent, and they are no object -/
theorem lb_hint {b : Array UInt8} {t : Tok} {Q : Bool → Shared → Prop} (h : Q false s) : wpAny (model prog w) A (Builtin.List.listLengthHint (.bytes b t)) Q E s := by
  have T := typeIs_bytes s b t
  have c : splitId "bytes.__len__" = some ("bytes", "__len__") := by decide +kernel
  have i : isSubtype (.type "bytes") (.type "bytes") = pure true := by rw [isSubtype_type]; kernel_rfl
  unfold Builtin.List.listLengthHint
  repeat (first
    | with_reducible refine wpAny_bind ?_
    | with_reducible refine wpAny_specialOf T FB.slot_bytes_len.lookup ?_
    | with_reducible refine wpAny_isInstance T i ?_
    | with_reducible refine wpAny_typeOf T ?_
    | (with_reducible refine bm_if_false ?no ?_; (case no => rfl))
    | (with_reducible refine bm_if_true ?yes ?_; (case yes => decide +kernel))
    | (dsimp only; rw [c]; dsimp only)
    | exact wpAny_pure h)
set_option maxHeartbeats 2000000 in
theorem lb_call {Q : Value → Shared → Prop} {b : Array UInt8} {t : Tok} (hh : A.handled = none) (hn : b.size ≤ sizeLine)
    (hQ : ∀ h' tk vs c, (∀ a o, s.heap.get? a = some o → h'.get? a = some o) → h'.get? s.heap.objs.size = some { cls := .type "list", dict := none, data := .seq vs c, slots := #[] } → ItemsOf (Octet b) vs b.size →
      Q (.ref s.heap.objs.size) { s with heap := h', toks := tk }) :
    wpAny (model prog w) A (call (.type "list") [.bytes b t]) Q E s := by
  refine callType_codes (Q₁ := fun v s' => v = .ref s.heap.objs.size ∧ s' = { s with heap := s.heap.push { cls := .type "list", data := .seq #[] } }) PySem.F.called_list (PySem.F.typeCall_list_1 _) PySem.F.entry_list_init (code_list_new _ ⟨rfl, rfl⟩) fun v s' q => ?_
  obtain ⟨rfl, rfl⟩ := q
  have d0 : (s.heap.push { cls := .type "list", data := .seq #[] }).get? s.heap.objs.size = some { cls := .type "list", data := .seq #[] } := Heap.get?_push_size _ rfl
  refine ⟨⟨_, d0, rfl⟩, PySem.F.args_list_init_2 _ _, ?_⟩
  unfold Builtin.«list.__init__»
  repeat (first
    | with_reducible refine wpAny_pure ?_
    | with_reducible refine wpAny_bind ?_
    | with_reducible refine wpAny_letGo ?_
    | with_reducible refine wpAny_typeOf (typeIs_bytes _ b t) ?_
    | with_reducible refine wpAny_holding (lb_hint ?_)
    | (with_reducible refine bm_if_false ?no ?_; (case no => exact rfl))
    | refine wpAny_seqItems d0 rfl ?_
    | refine wpAny_updateSeq (hz := Nat.zero_le _) d0 rfl ?_
    | refine KBw.pyIter_bytes ?_
    | refine wpAny_bind ?_)
  have d1 := Heap.get?_update_self (Obj.mapSeq (fun _ => (#[] : Array Value))) d0 rfl
  have i0 := Heap.lt_size d1
  have lift : ∀ a o, s.heap.get? a = some o → ((s.heap.push { cls := .type "list", data := .seq #[] }).update s.heap.objs.size (Obj.mapSeq fun _ => #[])).get? a = some o := fun a o e =>
    (Heap.get?_update_other _ _ (Nat.ne_of_gt (Heap.lt_size e))).trans (Heap.get?_push_of_some _ e)
  refine wpAny_pure ⟨plainId_quiet PySem.F.plain_extend_loop _, codeAny_extend_loopS (A := A.in1) (KBw.walks (A := A.in1.in1) hh _ b t).toS hn s.heap.objs.size (fun m => Nat.ne_of_lt i0 (List.mem_singleton.mp m)) .none b.size 0 _ #[] _ rfl (Nat.zero_le _)
    ⟨_, Heap.get?_push_size _ rfl, rfl, rfl⟩ (Heap.get?_push_of_some _ d1) (ItemsOf.nil _) fun s' vs c mv dv iv => ?_⟩
  rw [Moved.eq_with mv]
  refine ⟨rfl, hQ s'.heap s'.toks vs c (fun a o e => mv.heap a o (fun m => ?_) (Heap.get?_push_of_some _ (lift a o e))) dv iv⟩
  have i1 := Heap.lt_size e
  rcases List.mem_cons.mp m with m | m
  · exact Nat.ne_of_lt i1 m
  · exact Nat.ne_of_lt (Nat.lt_trans i1 i0) (List.mem_singleton.mp m)
/-- list(b) of bytes, onto the ledger -/
theorem list_bytes {h₀ : Heap} {L : Addr} {m : PySem.Str → Option Value} {news : List (Addr × Obj)} {b : Array UInt8} {t : Tok} {ks : List Int} {Q : Value → Shared → Prop} (hh : A.handled = none) (F : Fr h₀ L s.heap m) (N : News h₀ L s.heap news) (hb : KBw.bInts b = ks) (hz : ks.length ≤ 16777216)
    (h : ∀ D us c h' tk, Fr h₀ L h' m → News h₀ L h' ((D, listOf (List.toArray us) c) :: news) → (∀ p ∈ news, p.1 < D) → IntsAre us ks → Q (.ref D) { s with heap := h', toks := tk }) :
    wpAny (model prog w) A (call (.type "list") [.bytes b t]) Q E s := by
  subst hb
  rw [KBw.ints_length] at hz
  refine lb_call hh (by rw [sizeLine_eq]; exact hz) fun h' tk vs c keep dv iv => ?_
  refine h s.heap.objs.size vs.toList c h' tk (F.keeps keep) (news_pushed F N keep (by rw [dv]) rfl) (fun p hp => Heap.lt_size (N p hp).1) (kdy_ints ?_ fun j v hj => ?_)
  · rw [Array.length_toList, iv.1, KBw.ints_length]
  · obtain ⟨c1, u, e1, e2⟩ := iv.2 j v (Array.getElem?_toList.symm.trans hj)
    exact ⟨_, KBw.ints_get e1, u, e2⟩
end
end Mine
end PartListBytes

section PartIni
open PySem PySem.W PyProof.Rows PySem.Spec PySem.Calls
set_option maxRecDepth 100000
set_option maxHeartbeats 8000000
namespace Mine
/-- the object's dict: s, i, j -/
abbrev arcEs (w : World) (l : Addr) (i j : Int) (t1 t2 t3 ti tj : Tok) : List DictEntry :=
  [{ hash := PyData.keyHash w.params (Str.ofString "s"), key := .str (Str.ofString "s") t1, val := .ref l }, { hash := PyData.keyHash w.params (Str.ofString "i"), key := .str (Str.ofString "i") t2, val := .int i ti },
   { hash := PyData.keyHash w.params (Str.ofString "j"), key := .str (Str.ofString "j") t3, val := .int j tj }]
def NLt (a b : Nat) : Prop := a < b
local macro_rules | `(tactic| walk_at "call type:list") => `(tactic| ((rename KstMark => hMk9); k_here; (with_reducible show wpAny _ _ (call (Value.type _) [Value.ref _]) _ _ _); (rename IsRange _ _ _ _ _ _ _ _ => rgX); (with_unfolding_all refine' kll_range ?k0 ?k1 ?k2 ?k3 ?k4 ?k5 ?k6 ?_; (case k0 => rfl); (case k1 => k_asm); (case k2 => k_asm); (case k3 => first | exact rgX | assumption); (case k4 => decide); (case k5 => rfl); (case k6 => decide); k_whole); intro D' vs' c' h' tk' F' N' l1 hI'; (change IntsAre _ (rangeKs 0 256) at hI'); (try k_lt l1); (try k_sweep)))
theorem init_list : ∀ (w : World) (dp un : Nat) (gd : Option (List Code)) (cn : Str) (cs : Scope) (a : Addr) (ccd : Value) (cl : List (Str × Addr)) (outer : List Env) (A₀ : Around) (base h₀ : Heap) (L : Addr) (m : Str → Option Value) (s : Shared) (Q E : Value → Shared → Prop)
   (loose : List Str) (mean : ExcName → Option Value) (mg mb : Str → Option Value)
   (lk : Addr) (kvs : List Value) (key : List Int) (kc : Nat) (rest : List (Addr × Obj)),
    Below A₀ base outer h₀ → Fr h₀ L s.heap m → (hd.heap_39 w.params).In h₀ → News h₀ L s.heap ((lk, listOf kvs.toArray kc) :: rest) → Top hd.view_39 loose mean mg mb h₀ → cs.kind = .function →
    dp + 1 < recursionLimit → un + 8 < cLine → IntsAre kvs key → key.length < 2^62 → 0 < key.length →
    (∀ x dx l h' tk vs c t1 t2 t3 ti tj, Fr h₀ L h' m → News h₀ L h' ((l, listOf vs.toArray c) :: (x, instObj 38 dx) :: (dx, dictOf (arcEs w l 0 0 t1 t2 t3 ti tj) 3) :: (lk, listOf kvs.toArray kc) :: rest) →
      NLt lk dx → AllLt dx rest → NLt dx x → NLt x l → IntsAre vs (ksa key) → Q (.ref x) { s with heap := h', toks := tk }) →
    wpAny (model PySem.Challenge.rw_lc0006_01.row.prog w) (ktrTop dp un gd cn cs L a ccd cl outer) (call (.ref 38) [.ref lk]) Q E s := by
  w_top off
  k_fill
  intro w dp un gd cn cs a ccd cl outer A₀ base h₀ L m s Q E loose mean mg mb lk kvs key kc rest B F X N T hk hdp hun hI hlt hpos hret
  have kM := kstMark
  k_dflt (refine' call_cls ?k1 ?k2 ?k3 ?k4 ?k5 ?k6 ?_; (case k1 => k_asm); (case k2 => k_asm); (case k3 => k_asm); (case k4 => k_is); (case k5 => k_is); (case k6 => k_is); k_whole; intro x' d' h' F' N' l1 l2; (try k_lt l1); (try k_lt2 l2); (try k_sweep); cell_enter)
  repeat' ((fail_if_success (with_reducible (show wpAny _ _ (pyIter _) _ _ _))); first | (k_unfold; (try dsimp only)) | (k_end; wrow_close) | walk1 | (dsimp only; walk1) | (leave1; walk_say "STEP leave1"; try dsimp only) | fail "no step")
  k_with "state" => first | exact Mine.init_start _ | exact Mine.init_turn (by assumption) rfl rfl
  rename _ ∧ _ ∧ _ ∧ AllLt _ rest => lD
  k_state_given ["key"] (fun key pre j s => Mine.KS key pre j s ∧ s.length = 256 ∧ 0 ≤ j ∧ j < 256) "j" "s"
  · k_steps
  · rename Mine.KS _ _ _ _ => hK
    have eK := Mine.ks_end hK
    subst eK
    k_steps
    exact hret _ _ _ _ _ _ _ _ _ _ _ _ (by assumption) (kst_newsOf (by assumption) (fun p hp => List.Mem.tail _ hp)) l1.1 l1.2 l2 lD.1 (by assumption)
end Mine
end PartIni

section PartIniB
open PySem PySem.W PyProof.Rows PySem.Spec PySem.Calls
set_option maxRecDepth 100000
set_option maxHeartbeats 8000000
namespace Mine
local macro_rules | `(tactic| walk_at "call type:list") => `(tactic| ((rename KstMark => hMk9); k_here; (with_reducible show wpAny _ _ (call (Value.type _) [Value.ref _]) _ _ _); (rename IsRange _ _ _ _ _ _ _ _ => rgX); (with_unfolding_all refine' kll_range ?k0 ?k1 ?k2 ?k3 ?k4 ?k5 ?k6 ?_; (case k0 => rfl); (case k1 => k_asm); (case k2 => k_asm); (case k3 => first | exact rgX | assumption); (case k4 => decide); (case k5 => rfl); (case k6 => decide); k_whole); intro D' vs' c' h' tk' F' N' l1 hI'; (change IntsAre _ (rangeKs 0 256) at hI'); (try k_lt l1); (try k_sweep)))
theorem init_bytes : ∀ (w : World) (dp un : Nat) (gd : Option (List Code)) (cn : Str) (cs : Scope) (a : Addr) (ccd : Value) (cl : List (Str × Addr)) (outer : List Env) (A₀ : Around) (base h₀ : Heap) (L : Addr) (m : Str → Option Value) (s : Shared) (Q E : Value → Shared → Prop)
   (loose : List Str) (mean : ExcName → Option Value) (mg mb : Str → Option Value)
   (b : Array UInt8) (tb : Tok) (key : List Int) (rest : List (Addr × Obj)),
    Below A₀ base outer h₀ → Fr h₀ L s.heap m → (hd.heap_39 w.params).In h₀ → News h₀ L s.heap rest → Top hd.view_39 loose mean mg mb h₀ → cs.kind = .function →
    dp + 1 < recursionLimit → un + 8 < cLine → KBw.bInts b = key → key.length ≤ 1024 → 0 < key.length →
    (∀ x dx l h' tk vs c t1 t2 t3 ti tj, Fr h₀ L h' m → News h₀ L h' ((l, listOf vs.toArray c) :: (x, instObj 38 dx) :: (dx, dictOf (arcEs w l 0 0 t1 t2 t3 ti tj) 3) :: rest) →
      AllLt dx rest → NLt dx x → NLt x l → IntsAre vs (ksa key) → Q (.ref x) { s with heap := h', toks := tk }) →
    wpAny (model PySem.Challenge.rw_lc0006_01.row.prog w) (ktrTop dp un gd cn cs L a ccd cl outer) (call (.ref 38) [.bytes b tb]) Q E s := by
  w_top off
  k_fill
  intro w dp un gd cn cs a ccd cl outer A₀ base h₀ L m s Q E loose mean mg mb b tb key rest B F X N T hk hdp hun hb hlt hpos hret
  have kM := kstMark
  k_dflt (refine' call_cls ?k1 ?k2 ?k3 ?k4 ?k5 ?k6 ?_; (case k1 => k_asm); (case k2 => k_asm); (case k3 => k_asm); (case k4 => k_is); (case k5 => k_is); (case k6 => k_is); k_whole; intro x' d' h' F' N' l1 l2; (try k_lt l1); (try k_lt2 l2); (try k_sweep); cell_enter)
  repeat' ((fail_if_success (with_reducible (show wpAny _ _ (pyIter _) _ _ _))); first | (k_unfold; (try dsimp only)) | (k_end; wrow_close) | walk1 | (dsimp only; walk1) | (leave1; walk_say "STEP leave1"; try dsimp only) | fail "no step")
  k_with "state" => first | exact Mine.init_start _ | exact Mine.init_turn (by assumption) rfl rfl
  rename _ ∧ _ ∧ AllLt _ rest => lD
  k_state (fun pre j s => Mine.KS key pre j s ∧ s.length = 256 ∧ 0 ≤ j ∧ j < 256) "j" "s"
  · k_steps
  · rename Mine.KS _ _ _ _ => hK
    have eK := Mine.ks_end hK
    subst eK
    k_steps
    exact hret _ _ _ _ _ _ _ _ _ _ _ _ (by assumption) (kst_newsOf (by assumption) (fun p hp => List.Mem.tail _ hp)) (allLt_of l1) l2 lD.1 (by assumption)
end Mine
end PartIniB

section PartProc
open PySem PySem.W PyProof.Rows PySem.Spec PySem.Calls
set_option maxRecDepth 100000
set_option maxHeartbeats 8000000
namespace Mine
local macro_rules | `(tactic| walk_at "call type:bytes") => `(tactic| (k_here; (with_reducible show wpAny _ _ (call (Value.type "bytes") [Value.ref _]) _ _ _); k_dflt (refine' bytes_one ?F ?N ?m ?a ?b ?c ?_; (case F => k_asm); (case N => k_asm); (case m => k_mem); (case a => exact (xb (by assumption) (by assumption) (by assumption)).1); (case b => exact (xb (by assumption) (by assumption) (by assumption)).2); (case c => rfl)); intro h' t' k' F' N' hbI'))
local macro_rules | `(tactic| walk_at "inplaceOp Add bytes bytes") => `(tactic| (k_here; (refine iadd_bytes ?z ?_); (case z => (rw [byteArr_size, List.length_singleton]; omega)); intro t' k'))
theorem process_ok : ∀ (w : World) (dp un : Nat) (gd : Option (List Code)) (cn : Str) (cs : Scope) (a : Addr) (ccd : Value) (cl : List (Str × Addr)) (outer : List Env) (A₀ : Around) (base h₀ : Heap) (L : Addr) (m : Str → Option Value) (s : Shared) (Q E : Value → Shared → Prop)
   (loose : List Str) (mean : ExcName → Option Value) (mg mb : Str → Option Value)
   (x dx l : Addr) (vs : List Value) (S : List Int) (i j : Int) (c : Nat) (t1 t2 t3 ti tj : Tok) (b : Array UInt8) (tb : Tok) (ks : List Int) (rest : List (Addr × Obj)),
    Below A₀ base outer h₀ → Fr h₀ L s.heap m → (hd.heap_39 w.params).In h₀ → News h₀ L s.heap ((l, listOf vs.toArray c) :: (x, instObj 38 dx) :: (dx, dictOf (arcEs w l i j t1 t2 t3 ti tj) 3) :: rest) → Top hd.view_39 loose mean mg mb h₀ → cs.kind = .function →
    dp + 1 < recursionLimit → un + 8 < cLine → @Ne Nat l x → @Ne Nat l dx → @Ne Nat x dx → OwnOff rest [l, x, dx] → IntsAre vs S → Ok ⟨i, j, S⟩ → KBw.bInts b = ks → ks.length ≤ 1024 →
    (∀ h' tk vs' c' i' j' S' ti' tj' b' tb', Fr h₀ L h' m → News h₀ L h' ((l, listOf vs'.toArray c') :: (x, instObj 38 dx) :: (dx, dictOf (arcEs w l i' j' t1 t2 t3 ti' tj') 3) :: rest) →
      IntsAre vs' S' → PW ⟨i, j, S⟩ ks i' j' S' b' → Q (.bytes b' tb') { s with heap := h', toks := tk }) →
    wpAny (model PySem.Challenge.rw_lc0006_01.row.prog w) (ktrTop dp un gd cn cs L a ccd cl outer) (call (.ref 35) [.ref x, .bytes b tb]) Q E s := by
  w_top off
  k_fill
  intro w dp un gd cn cs a ccd cl outer A₀ base h₀ L m s Q E loose mean mg mb x dx l vs S i j c t1 t2 t3 ti tj b tb ks rest B F X N T hk hdp hun n1 n2 n3 hoff hI hok hb hlt hret
  have kM := kstMark
  refine wpAny_call ?_
  k_dflt cell_enter
  repeat' ((fail_if_success (with_reducible (show wpAny _ _ (pyIter _) _ _ _))); first | (k_unfold; (try dsimp only)) | (k_end; wrow_close) | walk1 | (dsimp only; walk1) | (leave1; walk_say "STEP leave1"; try dsimp only) | fail "no step")
  (rename Fr _ _ _ _ => F9); (rename News _ _ _ _ => N9)
  k_dflt (refine' iter_bytes F9 N9 ?_)
  intro I h9 F9' N9' hit hL h0I hnI
  clear F9 N9
  with_unfolding_all
   refine' octets_for (σ := Int × Nat × Int × Nat × List Value × List Int × Nat × Array UInt8 × Nat)
    (fun c => (l, listOf (c.2.2.2.2.1).toArray c.2.2.2.2.2.2.1) :: (x, instObj 38 dx) :: (dx, dictOf (arcEs w l i j t1 t2 t3 ti tj) 3) :: rest)
    (fun c => [(Str.ofString "i", Value.int c.1 c.2.1), (Str.ofString "j", Value.int c.2.2.1 c.2.2.2.1), (Str.ofString "r", Value.bytes c.2.2.2.2.2.2.2.1 c.2.2.2.2.2.2.2.2)])
    (fun c => IntsAre c.2.2.2.2.1 c.2.2.2.2.2.1) [Str.ofString "k"]
    (fun pre c => PW ⟨i, j, S⟩ pre c.1 c.2.2.1 c.2.2.2.2.2.1 c.2.2.2.2.2.2.2.1 ∧ Box c.2.2.2.2.2.1 ∧ c.2.2.2.2.2.1.length = 256 ∧ c.2.2.2.2.2.2.2.1.size = pre.length)
    (_, _, _, _, vs, S, c, #[], _)
    hit hL h0I ?kl hb rfl F9' ?kn hI ?kk ?kp ?turn ?done
  case kl => exact fun p hp => hnI p (List.Mem.tail _ hp)
  case kn => exact kst_newsOf N9' (fun p hp => List.Mem.tail _ hp)
  case kk => kst_all
  case kp => exact proc_start _ hok
  case turn =>
    clear F9' N9'
    rintro ⟨i1, ti1, j1, tj1, vs1, s1, c1, r1, tr1⟩ i0 n tn u h tk own hget hn0 hn1 hoff1 hI1 ⟨hP, hB, hl, hr⟩ F1 N1
    dsimp only [kstB] at F1 N1 hoff1 hI1 hP hB hl hr
    have hle : (ks.take i0).length < 1024 := by
      have := (List.getElem?_eq_some_iff.mp hget).1
      rw [List.length_take]
      omega
    have hnext : ks.take (i0 + 1) = ks.take i0 ++ [n] := by rw [List.take_add_one, hget]; rfl
    rw [hnext]
    clear hnext hget
    revert hP hr hle
    generalize ks.take i0 = pre
    intro hP hr hle
    simp only [List.cons_append, List.map_cons] at N1 hoff1
    have hlen1 := hI1.length
    have kM := kstMark
    try k_fold
    k_with "state" => exact proc_turn (by assumption) (by assumption) (by constructor <;> assumption) rfl rfl rfl rfl rfl
    k_steps
  case done =>
    clear F9' N9'
    rintro ⟨i1, ti1, j1, tj1, vs1, s1, c1, r1, tr1⟩ u h tk hI1 ⟨hP, hB, hl, hr⟩ F1 N1
    dsimp only [kstB] at F1 N1 hI1 hP hB hl hr
    have kM := kstMark
    k_steps
    exact hret _ _ _ _ _ _ _ _ _ _ _ (by assumption) (kst_newsOf (by assumption) (fun p hp => List.Mem.tail _ hp)) hI1 hP
end Mine
end PartProc

section PartStrm
open PySem PySem.W PyProof.Rows PySem.Spec PySem.Calls
set_option maxRecDepth 100000
set_option maxHeartbeats 8000000
namespace Mine
theorem stream_ok : ∀ (w : World) (dp un : Nat) (gd : Option (List Code)) (cn : Str) (cs : Scope) (a : Addr) (ccd : Value) (cl : List (Str × Addr)) (outer : List Env) (A₀ : Around) (base h₀ : Heap) (L : Addr) (m : Str → Option Value) (s : Shared) (Q E : Value → Shared → Prop)
   (loose : List Str) (mean : ExcName → Option Value) (mg mb : Str → Option Value)
   (lk : Addr) (kvs : List Value) (key : List Int) (kc : Nat) (n : Nat) (tn : Tok) (rest : List (Addr × Obj)),
    Below A₀ base outer h₀ → Fr h₀ L s.heap m → (hd.heap_39 w.params).In h₀ → News h₀ L s.heap ((lk, listOf kvs.toArray kc) :: rest) → Top hd.view_39 loose mean mg mb h₀ → cs.kind = .function →
    dp + 1 < recursionLimit → un + 8 < cLine → IntsAre kvs key → key.length ≤ 1024 → 0 < key.length → n ≤ 1024 →
    (∀ lr h' tk rvs c, Fr h₀ L h' m → News h₀ L h' ((lr, listOf rvs.toArray c) :: (lk, listOf kvs.toArray kc) :: rest) → NLt lk lr → AllLt lr rest → IntsAre rvs (stream (st0 key) n) → Q (.ref lr) { s with heap := h', toks := tk }) →
    wpAny (model PySem.Challenge.rw_lc0006_01.row.prog w) (ktrTop dp un gd cn cs L a ccd cl outer) (call (.ref 49) [.ref lk, .int (n : Int) tn]) Q E s := by
  w_top off
  k_fill
  intro w dp un gd cn cs a ccd cl outer A₀ base h₀ L m s Q E loose mean mg mb lk kvs key kc n tn rest B F X N T hk hdp hun hI hlt hpos hn hret
  have kM := kstMark
  refine wpAny_call ?_
  k_dflt cell_enter
  repeat' ((fail_if_success (with_reducible (show wpAny _ _ (pyIter _) _ _ _))); first | (k_unfold; (try dsimp only)) | (k_end; wrow_close) | walk1 | (dsimp only; walk1) | (leave1; walk_say "STEP leave1"; try dsimp only) | fail "no step")
  k_with "state" => first | exact Mine.ls_start _ | exact Mine.ls_turn (by assumption) (by assumption) (by assumption) (by assumption) rfl rfl | exact Mine.ms_start (by assumption) (by assumption) | exact Mine.ms_turn (Mine.ok0 _) (by assumption) (by assumption) (by assumption) rfl rfl rfl rfl
  k_state (fun pre j mv => Mine.LS key pre j mv ∧ mv.length ≤ 2 * pre.length) "j" "moved"
  · k_steps
  · rename Mine.LS _ _ _ _ => hLS
    have hRel := Mine.ls_end hLS
    repeat' ((fail_if_success (with_reducible (show wpAny _ _ (pyIter _) _ _ _))); first | (k_unfold; (try dsimp only)) | (k_end; wrow_close) | walk1 | (dsimp only; walk1) | (leave1; walk_say "STEP leave1"; try dsimp only) | fail "no step")
    k_state (fun pre told i j mv => Mine.MS (Mine.st0 key) pre i j told mv ∧ mv.length ≤ 512 + 2 * pre.length ∧ told.length = pre.length) "told" "i" "j" "moved"
    · k_steps
    · rename Mine.MS _ _ _ _ _ _ => hMS
      have eM := Mine.ms_end hMS
      have eN : ((n : Int) - 0).toNat = n := by omega
      rw [eN] at eM
      subst eM
      rename _ ∧ _ ∧ AllLt _ rest => lD
      k_steps
      exact hret _ _ _ _ _ (by assumption) (kst_newsOf (by assumption) (fun p hp => by
        rcases List.mem_cons.mp hp with rfl | hp
        · exact List.Mem.head _
        · exact List.Mem.tail _ (List.Mem.tail _ hp))) lD.2.1 lD.2.2 (by assumption)
end Mine
end PartStrm

section PartBase
open PySem PySem.W PyProof.Rows PySem.Spec PySem.Calls
set_option maxRecDepth 100000
namespace Mine
def fnB : Stmt → List Stmt
  | .FunctionDef (body := b) .. => b
  | _ => []
def fnS : Stmt → Option Scope
  | .FunctionDef (scope := b) .. => some b
  | _ => none
def fifth : List Stmt → Stmt
  | _ :: _ :: _ :: _ :: f :: _ => f
  | _ => .Pass ⟨0, 0, 0, 0⟩
def scopeOf : Option Scope → Scope
  | some s => s
  | none => { kind := .function, names := [], isGenerator := false, isCoroutine := false, more := [] }
def lawStmts : List Stmt := fnB (fifth PySem.Challenge.pw_lc0006_01.main.body)
def lawScope : Scope := scopeOf (fnS (fifth PySem.Challenge.pw_lc0006_01.main.body))
def drop4 : List Stmt → List Stmt
  | _ :: _ :: _ :: _ :: r => r
  | _ => []
def drop7 : List Stmt → List Stmt
  | _ :: _ :: _ :: _ :: _ :: _ :: _ :: r => r
  | _ => []
def wbody : Stmt → List Stmt
  | .While _ b _ _ => b
  | _ => []
def fourth : List Stmt → Stmt
  | _ :: _ :: _ :: f :: _ => f
  | _ => .Pass ⟨0, 0, 0, 0⟩
def drop3 : List Stmt → List Stmt
  | _ :: _ :: _ :: r => r
  | _ => []
def turnRest : List Stmt := drop3 (wbody (fourth (drop7 lawStmts)))
abbrev lawEnv (L fa : Addr) (cd : Value) : Env := envOfC (Str.ofString "law") lawScope L fa cd
/-- two addresses apart, hidden from omega (it splits each ≠) -/
def NN (a b : Nat) : Prop := a ≠ b
theorem NN.ne {a b : Nat} (h : NN a b) : a ≠ b := h
theorem NN.en {a b : Nat} (h : NN b a) : a ≠ b := Ne.symm h
def NNa (a : Nat) : List Nat → Prop
  | [] => True
  | b :: r => NN a b ∧ NNa a r
def NNs : List Nat → Prop
  | [] => True
  | a :: r => NNa a r ∧ NNs r
end Mine
end PartBase

section PartTB
open PySem PySem.W PyProof.Rows PySem.Spec PySem.Calls
set_option maxRecDepth 100000
set_option maxHeartbeats 8000000
namespace Mine
local macro_rules | `(tactic| walk_at "call type:list") => `(tactic| (k_here; (with_reducible show wpAny _ _ (call (Value.type "list") [Value.bytes _ _]) _ _ _); k_dflt (refine' list_bytes ?c ?F ?N ?b ?z ?_; (case c => rfl); (case F => k_asm); (case N => k_asm); (case b => with_reducible assumption); (case z => omega)); intro D' us' c' h' tk' F' N' l1 hI'; (try k_lt l1); (try k_sweep)))
theorem turnB : ∀ (w : World) (fa : Addr) (cd : Value) (h₀ : Heap) (L : Addr) (m : Str → Option Value) (s : Shared) (Q : Flow → Shared → Prop) (E : Value → Shared → Prop)
   (loose : List Str) (mean : ExcName → Option Value) (mg mb : Str → Option Value)
   (ta l x dx : Addr) (tvs vs : List Value) (tns S ks : List Int) (tc c : Nat) (i j nv pl tu : Int) (t1 t2 t3 ti tj tnv tpl ttu tpb : Tok) (pb : Array UInt8) (rest : List (Addr × Obj)),
    Below callerA h₀ [] h₀ → Fr h₀ L s.heap m → (hd.heap_39 w.params).In h₀ → Top hd.view_39 loose mean mg mb h₀ →
    News h₀ L s.heap ((ta, listOf tvs.toArray tc) :: (l, listOf vs.toArray c) :: (x, instObj 38 dx) :: (dx, dictOf (arcEs w l i j t1 t2 t3 ti tj) 3) :: rest) →
    NN l x → NN l dx → NN x dx → NN ta l → NN ta x → NN ta dx → OwnOff rest [l, x, dx] →
    m (Str.ofString "number") = some (.int nv tnv) → m (Str.ofString "part") = some (.bytes pb tpb) → m (Str.ofString "told") = some (.ref ta) → m (Str.ofString "place") = some (.int pl tpl) → m (Str.ofString "turn") = some (.int tu ttu) → m (Str.ofString "cipher") = some (.ref x) →
    IntsAre tvs tns → IntsAre vs S → Ok ⟨i, j, S⟩ → KBw.bInts pb = ks → ks.length ≤ 64 → tns.length ≤ 64 →
    (∀ ta' h' tk m' tvs' tc' vs' S' c' i' j' ti' tj' b' ol t1' t2' pl', Fr h₀ L h' m' → News h₀ L h' ((ta', listOf tvs'.toArray tc') :: (l, listOf vs'.toArray c') :: (x, instObj 38 dx) :: (dx, dictOf (arcEs w l i' j' t1 t2 t3 ti' tj') 3) :: rest) →
      NLt l ta' → NLt x ta' → NLt dx ta' → AllLt ta' rest → IntsAre tvs' (tns ++ ol) → IntsAre vs' S' → PW ⟨i, j, S⟩ ks i' j' S' b' → KBw.bInts b' = ol → pl' = pl + (ks.length : Int) →
      m' (Str.ofString "told") = some (.ref ta') → m' (Str.ofString "place") = some (.int pl' t1') → m' (Str.ofString "turn") = some (.int (tu + 1) t2') →
      (∀ z, z ≠ Str.ofString "told" → z ≠ Str.ofString "place" → z ≠ Str.ofString "turn" → z ≠ Str.ofString "way" → z ≠ Str.ofString "got" → m' z = m z) → Q .next { s with heap := h', toks := tk }) →
    wpAny (model PySem.Challenge.rw_lc0006_01.row.prog w) (callerA.deeper (lawEnv L fa cd)) (execs turnRest (lawEnv L fa cd)) Q E s := by
  w_top off
  k_fill
  intro w fa cd h₀ L m s Q E loose mean mg mb ta l x dx tvs vs tns S ks tc c i j nv pl tu t1 t2 t3 ti tj tnv tpl ttu tpb pb rest B F X T N p1 p2 p3 p4 p5 p6 hof m1 m2 m3 m4 m5 m6 hIt hIS hok hb hks htn hret
  have kM := kstMark
  dsimp only [lawEnv, lawScope, lawStmts, fnB, fnS, fifth, scopeOf, PySem.Challenge.pw_lc0006_01, drop7, turnRest, drop3, fourth, wbody]
  have em : m = fun y => if y = Str.ofString "number" then some (.int nv tnv) else if y = Str.ofString "part" then some (.bytes pb tpb) else if y = Str.ofString "told" then some (.ref ta) else if y = Str.ofString "place" then some (.int pl tpl) else if y = Str.ofString "turn" then some (.int tu ttu) else if y = Str.ofString "cipher" then some (.ref x) else m y := by
    funext y
    by_cases h1 : y = Str.ofString "number"
    · rw [if_pos h1, h1, m1]
    · rw [if_neg h1]
      by_cases h2 : y = Str.ofString "part"
      · rw [if_pos h2, h2, m2]
      · rw [if_neg h2]
        by_cases h3 : y = Str.ofString "told"
        · rw [if_pos h3, h3, m3]
        · rw [if_neg h3]
          by_cases h4 : y = Str.ofString "place"
          · rw [if_pos h4, h4, m4]
          · rw [if_neg h4]
            by_cases h5 : y = Str.ofString "turn"
            · rw [if_pos h5, h5, m5]
            · rw [if_neg h5]
              by_cases h6 : y = Str.ofString "cipher"
              · rw [if_pos h6, h6, m6]
              · rw [if_neg h6]
  rw [em] at F
  have hofT : OwnOff ((ta, listOf tvs.toArray tc) :: rest) [l, x, dx] := by
    intro p hp b hb
    rcases List.mem_cons.mp hp with rfl | hp
    · simp only [List.mem_cons, List.not_mem_nil, or_false] at hb
      rcases hb with rfl | rfl | rfl <;> (refine neN ?_; dsimp only; exact NN.ne (by assumption))
    · exact hof p hp b hb
  repeat' ((fail_if_success (with_reducible (show wpAny _ _ (call (Value.ref 35) _) _ _ _))); first | (k_unfold; (try dsimp only)) | (k_end; wrow_close) | walk1 | (dsimp only; walk1) | (leave1; walk_say "STEP leave1"; try dsimp only) | fail "no step")
  all_goals (
    (rename Fr _ _ _ _ => F9)
    (rename News _ _ _ _ => N9)
    k_dflt (refine' process_ok _ _ _ _ _ _ _ _ _ _ _ _ _ _ _ _ _ _ _ _ _ _ x dx l vs S i j c t1 t2 t3 ti tj _ _ _ ((ta, listOf tvs.toArray tc) :: rest) ?k1 ?k2 ?k3 ?hN ?k4 ?k5 ?k6 ?k7 ?k8 ?k9 ?k10 ?k11 ?k12 ?k13 ?k14 ?hz ?hr)
    (case k1 => exact B)
    (case k2 => exact F9)
    (case k3 => exact X)
    (case hN => exact kst_newsOf N9 (by kst_inAny))
    (case k4 => exact T)
    (case k5 => rfl)
    (case k6 => decide)
    (case k7 => exact Nat.le_of_ble_eq_true rfl)
    (case k8 => exact NN.ne (by assumption))
    (case k9 => exact NN.ne (by assumption))
    (case k10 => exact NN.ne (by assumption))
    (case k11 => exact hofT)
    (case k12 => exact hIS)
    (case k13 => exact hok)
    (case k14 => exact hb)
    (case hz => omega)
    (case hr =>
      intro h' tk' vs' c' i' j' S' ti' tj' b' tb' F' N' hIS' hPW'
      clear F9 N9
      obtain ⟨ol, hol, hlo⟩ : ∃ ol, KBw.bInts b' = ol ∧ ol.length = _ := ⟨_, rfl, (KBw.ints_length _).trans hPW'.size⟩
      (try k_fold)
      k_steps
      all_goals first
        | (exfalso; omega)
        | ((rename _ ∧ _ ∧ _ ∧ _ ∧ _ ∧ AllLt _ rest => lD)
           refine hret _ _ _ _ _ _ _ _ _ _ _ _ _ _ _ _ _ _ (by assumption) (kst_newsOf (by assumption) (by kst_inAny)) lD.2.1 lD.2.2.1 lD.2.2.2.1 lD.2.2.2.2.2 (by assumption) hIS' hPW' hol rfl (by with_unfolding_all rfl) (by with_unfolding_all rfl) (by with_unfolding_all rfl) ?_
           intro z z1 z2 z3 z4 z5
           conv => rhs; rw [congrFun em z]
           simp [z1, z2, z3, z4, z5])))
end Mine
end PartTB

section PartRA
open PySem PySem.W PyProof.Rows PySem.Spec PySem.Calls
set_option maxRecDepth 100000
set_option maxHeartbeats 8000000
namespace Mine
local macro_rules | `(tactic| walk_at "call type:bytes") => `(tactic| (k_here; (with_reducible show wpAny _ _ (call (Value.type "bytes") [Value.ref _]) _ _ _); k_dflt (refine' KBa.make_K ?F ?N ?c ?l ?i ?r ?z ?_; (case F => k_asm); (case N => k_asm); (case c => rfl); (case l => kba_isList); (case i => first | (with_reducible assumption) | l_ints); (case r => first | exact in_td (by assumption) _ _ | assumption); (case z => (simp only [List.length_take, List.length_drop]; omega))); intro h' t' k' F' N' hIn'; (have hBI' := KBa.ints_make hIn')))
local macro_rules | `(tactic| k_ne) => `(tactic| (refine neN ?_; (try dsimp only); first | exact NN.ne (by assumption) | exact NN.en (by assumption) | omega))
local macro_rules | `(tactic| walk_at "call type:list") => `(tactic| (k_here; (with_reducible show wpAny _ _ (call (Value.type "list") [Value.bytes _ _]) _ _ _); k_dflt (refine' list_bytes ?c ?F ?N ?b ?z ?_; (case c => rfl); (case F => k_asm); (case N => k_asm); (case b => with_reducible assumption); (case z => omega)); intro D' us' c' h' tk' F' N' l1 hI'; (try k_lt l1); (try k_sweep)))
theorem ix1 {k : Int} {n : Nat} (h : k < 0 + (((n : Int) - 0).toNat : Int)) : k < (n : Int) := by omega
theorem ix2 {k : Int} {n : Nat} (h : k < 0 + (((n : Int) - 0).toNat : Int)) (hn : n ≤ 64) : k < 2 ^ 63 := by omega
theorem ix3 {k : Int} {n m : Nat} (h : k < 0 + (((n : Int) - 0).toNat : Int)) (hn : m = n) : k < (m : Int) := by omega
local macro_rules | `(tactic| walk_at "subscriptTail Name Name ref int") => `(tactic| (k_here; (with_reducible show wpAny _ _ (subscriptTail _ (Expr.Name _ _) (Value.ref _) (Value.int _ _)) _ _ _); k_dflt (refine' ksa_sub ?N ?m ?i ?a ?b ?c ?_ ?s; (case N => k_asm); (case m => k_mem); (case i => with_reducible assumption); (case a => with_reducible assumption); (case b => first | exact ix1 (by with_reducible assumption) | exact ix3 (by with_reducible assumption) (by with_reducible assumption)); (case c => exact ix2 (by with_reducible assumption) (by with_reducible assumption)); (case s => with_unfolding_all rfl)); intro t'))
theorem restA : ∀ (w : World) (fa : Addr) (cd : Value) (h₀ : Heap) (L : Addr) (m : Str → Option Value) (s : Shared) (Q : Flow → Shared → Prop) (E : Value → Shared → Prop)
   (loose : List Str) (mean : ExcName → Option Value) (mg mb : Str → Option Value)
   (sl : Addr) (svs : List Value) (ns : List Int)
   (l x dx lk lp lm c1 c2 : Addr) (vs kvs pvs mvs : List Value) (key msg : List Int) (c kc pc mc : Nat) (t1 t2 t3 ti tj : Tok) (o1 o2 : Obj) (v2 : Option Value),
    Below callerA h₀ [] h₀ → Fr h₀ L s.heap m → (hd.heap_39 w.params).In h₀ → Top hd.view_39 loose mean mg mb h₀ →
    News h₀ L s.heap [(l, listOf vs.toArray c), (x, instObj 38 dx), (dx, dictOf (arcEs w l 0 0 t1 t2 t3 ti tj) 3), (lk, listOf kvs.toArray kc), (lp, listOf pvs.toArray pc), (lm, listOf mvs.toArray mc), (c1, o1), (c2, o2)] →
    NNs [l, x, dx, lk, lp, lm, c1, c2] →
    c1 = L + 1 → c2 = L + 1 + 1 → o1.data = .cell (some (.ref lm)) → o2.data = .cell v2 →
    m (Str.ofString "script") = some (.ref sl) → m (Str.ofString "key") = some (.ref lk) → m (Str.ofString "kept") = some (.ref lp) → m (Str.ofString "cipher") = some (.ref x) →
    h₀.IsList sl svs.toArray → IntsAre svs ns → ns.length ≤ 63 →
    IntsAre vs (ksa key) → IntsAre kvs key → IntsAre pvs key → IntsAre mvs msg → 0 < key.length → key.length ≤ 64 → 0 < msg.length → msg.length ≤ 64 → KBa.In msg →
    (∀ h' tk m', Fr h₀ L h' m' → Q (.ret (.bool true)) { s with heap := h', toks := tk }) →
    PassesOwn (model PySem.Challenge.rw_lc0006_01.row.prog w) (callerA.deeper (lawEnv L fa cd)) (lawEnv L fa cd) E →
    wpAny (model PySem.Challenge.rw_lc0006_01.row.prog w) (callerA.deeper (lawEnv L fa cd)) (execs (drop7 lawStmts) (lawEnv L fa cd)) Q E s := by
  w_top off
  k_fill
  intro w fa cd h₀ L m s Q E loose mean mg mb sl svs ns l x dx lk lp lm c1 c2 vs kvs pvs mvs key msg c kc pc mc t1 t2 t3 ti tj o1 o2 v2 B F X T N hnd e1 e2 d1 d2 m1 m2 m3 m4 hL hI hn63 hIv hIk hIp hIm hk0 hk1 hm0 hm1 hmi hret hE
  have kM := kstMark
  simp only [NNs, NNa, and_true] at hnd
  obtain ⟨⟨p1, p2, p3, p4, p5, p6, p7⟩, ⟨p8, p9, p10, p11, p12, p13⟩, ⟨p14, p15, p16, p17, p18⟩, ⟨p19, p20, p21, p22⟩, ⟨p23, p24, p25⟩, ⟨p26, p27⟩, p28⟩ := hnd
  have em : m = fun y => if y = Str.ofString "script" then some (.ref sl) else if y = Str.ofString "key" then some (.ref lk) else if y = Str.ofString "kept" then some (.ref lp) else if y = Str.ofString "cipher" then some (.ref x) else m y := by
    funext y
    by_cases h1 : y = Str.ofString "script"
    · rw [if_pos h1, h1, m1]
    · rw [if_neg h1]
      by_cases h2 : y = Str.ofString "key"
      · rw [if_pos h2, h2, m2]
      · rw [if_neg h2]
        by_cases h3 : y = Str.ofString "kept"
        · rw [if_pos h3, h3, m3]
        · rw [if_neg h3]
          by_cases h4 : y = Str.ofString "cipher"
          · rw [if_pos h4, h4, m4]
          · rw [if_neg h4]
  rw [em] at F
  clear em
  subst e1 e2
  revert hE
  dsimp only [lawEnv, lawScope, lawStmts, fnB, fnS, fifth, scopeOf, PySem.Challenge.pw_lc0006_01, drop7]
  intro hE
  repeat' ((fail_if_success (with_reducible (show wpAny _ _ (exec (Stmt.While _ _ _ _) _) _ _ _))); first | (k_unfold; (try dsimp only)) | (k_end; wrow_close) | walk1 | (dsimp only; walk1) | (leave1; walk_say "STEP leave1"; try dsimp only) | fail "no step")
  (rename Fr _ _ _ _ => F9); (rename News _ _ _ _ => N9); (rename _ ∧ _ => l9)
  with_unfolding_all
   refine' ksw_while (σ := Addr × List Value × List Int × Nat × Int × Nat × Int × Nat × Int × Nat × Int × Nat × List Value × List Int × Nat)
    (fun c => [(c.1, listOf c.2.1.toArray c.2.2.2.1), (l, listOf c.2.2.2.2.2.2.2.2.2.2.2.2.1.toArray c.2.2.2.2.2.2.2.2.2.2.2.2.2.2), (x, instObj 38 dx),
      (dx, dictOf (arcEs w l c.2.2.2.2.2.2.2.2.1 c.2.2.2.2.2.2.2.2.2.2.1 t1 t2 t3 c.2.2.2.2.2.2.2.2.2.1 c.2.2.2.2.2.2.2.2.2.2.2.1) 3),
      (lk, listOf kvs.toArray kc), (lp, listOf pvs.toArray pc), (lm, listOf mvs.toArray mc), (L + 1, o1), (L + 1 + 1, o2)])
    (fun c => [(Str.ofString "told", Value.ref c.1), (Str.ofString "place", Value.int c.2.2.2.2.1 c.2.2.2.2.2.1), (Str.ofString "turn", Value.int c.2.2.2.2.2.2.1 c.2.2.2.2.2.2.2.1)])
    (fun c => IntsAre c.2.1 c.2.2.1 ∧ IntsAre c.2.2.2.2.2.2.2.2.2.2.2.2.1 c.2.2.2.2.2.2.2.2.2.2.2.2.2.1)
    [Str.ofString "number", Str.ofString "part", Str.ofString "way", Str.ofString "got"]
    (fun c => WP key msg c.2.2.1 c.2.2.2.2.1 c.2.2.2.2.2.2.1 c.2.2.2.2.2.2.2.2.1 c.2.2.2.2.2.2.2.2.2.2.1 c.2.2.2.2.2.2.2.2.2.2.2.2.2.1 ∧
      NN c.1 l ∧ NN c.1 x ∧ NN c.1 dx ∧ NN c.1 lk ∧ NN c.1 lp ∧ NN c.1 lm ∧ NN c.1 (L + 1) ∧ NN c.1 (L + 1 + 1))
    (fun c => (3 * ((msg.length : Int) - c.2.2.2.2.1) + (2 - Int.fmod c.2.2.2.2.2.2.1 3)).toNat)
    (_, [], [], _, 0, _, 0, _, 0, ti, 0, tj, vs, ksa key, c)
    F9 ?kn ?kf ?kk ?kp ?turn ?hE
  case kn => exact N9
  case kf => exact ⟨.nil, hIv⟩
  case kk => kst_all
  case kp => exact ⟨wp_start key msg, (by show _ ≠ _; dsimp only; omega), (by show _ ≠ _; dsimp only; omega), (by show _ ≠ _; dsimp only; omega), (by show _ ≠ _; dsimp only; omega), (by show _ ≠ _; dsimp only; omega), (by show _ ≠ _; dsimp only; omega), (by show _ ≠ _; dsimp only; omega), (by show _ ≠ _; dsimp only; omega)⟩
  case hE => first | passes_own | exact hE
  case turn =>
    clear F9 N9 l9
    rintro ⟨ta, tvs, tns, tc, pl, tpl, tu, ttu, i, ti, j, tj, vs, S, c⟩ u h tk ⟨hIt, hIS⟩ ⟨hW, n1, n2, n3, n4, n5, n6, n7, n8⟩ F1 N1
    dsimp only [kstB] at F1 N1 hIt hIS hW n1 n2 n3 n4 n5 n6 n7 n8
    have hok := hW.ok
    have hlen := hW.len
    have hW0 := hW.1
    have hW1 := hW.2.1
    have hW2 := hW.2.2.1
    have lk1 := hIk.length
    have lp1 := hIp.length
    have lm1 := hIm.length
    have kM := kstMark
    have hofR : OwnOff [(lk, listOf kvs.toArray kc), (lp, listOf pvs.toArray pc), (lm, listOf mvs.toArray mc), (L + 1, o1), (L + 1 + 1, o2)] [l, x, dx] := by
      intro p hp b hb
      simp only [List.mem_cons, List.not_mem_nil, or_false] at hp hb
      rcases hp with rfl | rfl | rfl | rfl | rfl <;> rcases hb with rfl | rfl | rfl <;> (refine neN ?_; dsimp only; first | exact NN.ne (by assumption) | exact NN.en (by assumption))
    try k_fold
    repeat' ((fail_if_success (with_reducible (show wpAny _ _ (execs (Stmt.Assign [Expr.Name (Str.ofString "way") _] _ _ :: _) _) _ _ _))); (fail_if_success (with_reducible (show wpAny _ _ (call (Value.ref 49) _) _ _ _))); first | (k_unfold; (try dsimp only)) | (k_end; wrow_close) | walk1 | (dsimp only; walk1) | (leave1; walk_say "STEP leave1"; try dsimp only) | fail "no step")
    rotate_right 1
    · (rename Fr _ _ _ _ => F9)
      (rename News _ _ _ _ => N9)
      k_dflt (refine' stream_ok _ _ _ _ _ _ _ _ _ _ _ _ _ _ _ _ _ _ _ _ _ _ lp pvs key pc msg.length _ [(ta, listOf tvs.toArray tc), (l, listOf vs.toArray c), (x, instObj 38 dx), (dx, dictOf (arcEs w l i j t1 t2 t3 ti tj) 3), (lk, listOf kvs.toArray kc), (lm, listOf mvs.toArray mc), (L + 1, o1), (L + 1 + 1, o2)] ?a1 ?a2 ?a3 ?a4 ?a5 ?a6 ?a7 ?a8 ?a9 ?a10 ?a11 ?a12 ?ar)
      (case a1 => exact B)
      (case a2 => exact F9)
      (case a3 => exact X)
      (case a4 => exact kst_newsOf N9 (by kst_inAny))
      (case a5 => exact T)
      (case a6 => rfl)
      (case a7 => decide)
      (case a8 => exact Nat.le_of_ble_eq_true rfl)
      (case a9 => exact hIp)
      (case a10 => omega)
      (case a11 => exact hk0)
      (case a12 => omega)
      (case ar =>
        intro lr h' tk' rvs rc F' N' q1 q2 hIr
        clear F9 N9
        unfold NLt at q1
        simp only [AllLt, and_true] at q2
        have hstl := stream_len (st0 key) msg.length
        have hrl := hIr.length
        (try k_fold)
        repeat' (first | (k_unfold; (try dsimp only)) | (k_end; wrow_close) | walk1 | (dsimp only; walk1) | (leave1; walk_say "STEP leave1"; try dsimp only) | fail "no step")
        all_goals first
          | exact hret _ _ _ (by assumption)
          | exact absurd (wp_end hW (by assumption)) (by assumption))
    all_goals (
      (rename Fr _ _ _ _ => F9)
      (rename News _ _ _ _ => N9)
      k_dflt (refine' turnB _ _ _ _ _ _ _ _ _ _ _ _ _ ta l x dx tvs vs tns S _ tc c i j _ pl tu t1 t2 t3 ti tj _ _ _ _ _ [(lk, listOf kvs.toArray kc), (lp, listOf pvs.toArray pc), (lm, listOf mvs.toArray mc), (L + 1, o1), (L + 1 + 1, o2)] ?b1 ?b2 ?b3 ?b4 ?b5 ?b6 ?b7 ?b8 ?b9 ?b10 ?b11 ?b12 ?b13 ?b14 ?b15 ?b16 ?b17 ?b18 ?b19 ?b20 ?b21 ?b22 ?b23 ?b24 ?hr)
      (case b1 => exact B)
      (case b2 => exact F9)
      (case b3 => exact X)
      (case b4 => exact T)
      (case b5 => exact kst_newsOf N9 (by kst_inAny))
      (case b6 => assumption)
      (case b7 => assumption)
      (case b8 => assumption)
      (case b9 => assumption)
      (case b10 => assumption)
      (case b11 => assumption)
      (case b12 => exact hofR)
      (case b13 => with_unfolding_all rfl)
      (case b14 => with_unfolding_all rfl)
      (case b15 => with_unfolding_all rfl)
      (case b16 => with_unfolding_all rfl)
      (case b17 => with_unfolding_all rfl)
      (case b18 => with_unfolding_all rfl)
      (case b19 => exact hIt)
      (case b20 => exact hIS)
      (case b21 => exact hok)
      (case b22 => with_reducible assumption)
      (case b23 => (simp only [List.length_take, List.length_drop]; omega))
      (case b24 => omega)
      (case hr =>
        intro ta' h' tk' m' tvs' tc' vs' S' c' i' j' ti' tj' b' ol t1' t2' pl' F' N' q1 q2 q3 qr hIt' hIS' hPW hol epl r1 r2 r3 rz
        (try k_unfold)
        (try dsimp only [KswPost])
        refine' ksw_end (ta', tvs', tns ++ ol, tc', pl', t1', tu + 1, t2', i', ti', j', tj', vs', S', c') F' N' ?hn ?hf ?hk ?hr2 ?hp ?hm
        (case hn => exact fun p hp => hp)
        (case hf => exact ⟨hIt', hIS'⟩)
        (case hk => exact List.forall_mem_cons.mpr ⟨r1, List.forall_mem_cons.mpr ⟨r2, List.forall_mem_cons.mpr ⟨r3, List.forall_mem_nil _⟩⟩⟩)
        (case hr2 =>
          intro z h2 h3
          (simp only [List.forall_mem_cons, List.not_mem_nil, false_implies, implies_true, and_true, ne_eq] at h2)
          (simp only [List.contains_cons, List.contains_nil, Bool.or_false, Bool.or_eq_false_iff, beq_eq_false_iff_ne, ne_eq] at h3)
          rw [rz z h2.1 h2.2.1 h2.2.2 h3.2.2.1 h3.2.2.2]
          simp [h2, h3])
        (case hp => exact ⟨wp_turn hW hPW hol rfl epl rfl rfl, Nat.ne_of_gt q1, Nat.ne_of_gt q2, Nat.ne_of_gt q3, Nat.ne_of_gt qr.1, Nat.ne_of_gt qr.2.1, Nat.ne_of_gt qr.2.2.1, Nat.ne_of_gt qr.2.2.2.1, Nat.ne_of_gt qr.2.2.2.2.1⟩)
        (case hm =>
          dsimp only
          rw [epl]
          refine Mine.meas (by simp only [List.length_take, List.length_drop]; omega) hW2 ?_
          first
            | (left; simp only [List.length_take, List.length_drop]; omega)
            | (right; assumption)
            | (left; exact Mine.bytes_some (by assumption)))))
end Mine
end PartRA

section PartRB
open PySem PySem.W PyProof.Rows PySem.Spec PySem.Calls
set_option maxRecDepth 100000
set_option maxHeartbeats 8000000
namespace Mine
local macro_rules | `(tactic| walk_at "call type:bytes") => `(tactic| (k_here; (with_reducible show wpAny _ _ (call (Value.type "bytes") [Value.ref _]) _ _ _); k_dflt (refine' KBa.make_K ?F ?N ?c ?l ?i ?r ?z ?_; (case F => k_asm); (case N => k_asm); (case c => rfl); (case l => kba_isList); (case i => with_reducible assumption); (case r => with_reducible assumption); (case z => exact Nat.le_trans (by with_reducible assumption) (by decide))); intro h' t' k' F' N' hIn'; (have hBI' := KBa.ints_make hIn')))
theorem pick8 {h₀ : Heap} {L : Addr} {h : Heap} {p1 p2 p3 p4 p5 p6 p7 p8 : Addr × Obj} (N : News h₀ L h [p1, p2, p3, p4, p5, p6, p7, p8]) : News h₀ L h [p6, p5, p1, p7, p8] := kst_newsOf N (by
  intro p hp
  simp only [List.mem_cons, List.not_mem_nil, or_false] at hp ⊢
  rcases hp with rfl | rfl | rfl | rfl | rfl <;> simp)
theorem nns_of {l x dx lk lp lm L : Nat} (h1 : NN lk (L + 1)) (h2 : NN lk (L + 1 + 1)) (h3 : L + 1 + 1 < lp) (h4 : lk < lp) (h5 : lp < lm) (h6 : lm < dx) (h7 : dx < x) (h8 : x < l) : NNs [l, x, dx, lk, lp, lm, L + 1, L + 1 + 1] := by
  simp only [NNs, NNa, and_true]
  unfold NN at h1 h2 ⊢
  refine ⟨⟨?_, ?_, ?_, ?_, ?_, ?_, ?_⟩, ⟨?_, ?_, ?_, ?_, ?_, ?_⟩, ⟨?_, ?_, ?_, ?_, ?_⟩, ⟨?_, ?_, ?_, ?_⟩, ⟨?_, ?_, ?_⟩, ⟨?_, ?_⟩, ?_⟩ <;> omega
theorem msg_in (l : List Int) (g : Int → Int) (h : Int) : KBa.In (List.map (fun k' => Int.fmod (g k') 256) l ++ [Int.fmod h 256]) := by
  intro n hn
  rcases List.mem_append.mp hn with hn | hn
  · obtain ⟨k, _, rfl⟩ := List.mem_map.mp hn
    exact md _
  · rw [List.mem_singleton.mp hn]
    exact md _
local macro_rules | `(tactic| k_ne) => `(tactic| (refine neN ?_; (try dsimp only); first | exact NN.ne (by assumption) | exact NN.en (by assumption) | omega))
theorem restB : ∀ (w : World) (fa : Addr) (cd : Value) (h₀ : Heap) (L : Addr) (m : Str → Option Value) (s : Shared) (Q : Flow → Shared → Prop) (E : Value → Shared → Prop)
   (loose : List Str) (mean : ExcName → Option Value) (mg mb : Str → Option Value)
   (sl : Addr) (svs : List Value) (ns : List Int) (lk : Addr) (kvs : List Value) (key : List Int) (kc : Nat) (hdv : Int) (th : Tok) (o1 o2 : Obj) (v1 v2 : Option Value),
    Below callerA h₀ [] h₀ → Fr h₀ L s.heap m → (hd.heap_39 w.params).In h₀ → Top hd.view_39 loose mean mg mb h₀ →
    News h₀ L s.heap [(lk, listOf kvs.toArray kc), (L + 1, o1), (L + 1 + 1, o2)] →
    NN lk (L + 1) → NN lk (L + 1 + 1) → o1.data = .cell v1 → o2.data = .cell v2 →
    m (Str.ofString "script") = some (.ref sl) → m (Str.ofString "head") = some (.int hdv th) → m (Str.ofString "key") = some (.ref lk) →
    h₀.IsList sl svs.toArray → IntsAre svs ns → ns.length ≤ 63 →
    IntsAre kvs key → 0 < key.length → key.length ≤ 64 → KBa.In key →
    (∀ h' tk m', Fr h₀ L h' m' → Q (.ret (.bool true)) { s with heap := h', toks := tk }) →
    PassesOwn (model PySem.Challenge.rw_lc0006_01.row.prog w) (callerA.deeper (lawEnv L fa cd)) (lawEnv L fa cd) E →
    wpAny (model PySem.Challenge.rw_lc0006_01.row.prog w) (callerA.deeper (lawEnv L fa cd)) (execs (drop4 lawStmts) (lawEnv L fa cd)) Q E s := by
  w_top off
  k_fill
  intro w fa cd h₀ L m s Q E loose mean mg mb sl svs ns lk kvs key kc hdv th o1 o2 v1 v2 B F X T N nl1 nl2 d1 d2 m1 m2 m3 hL hI hn63 hIk hk0 hk1 hki hret hE
  have kM := kstMark
  have em : m = fun y => if y = Str.ofString "script" then some (.ref sl) else if y = Str.ofString "head" then some (.int hdv th) else if y = Str.ofString "key" then some (.ref lk) else m y := by
    funext y
    by_cases h1 : y = Str.ofString "script"
    · rw [if_pos h1, h1, m1]
    · rw [if_neg h1]
      by_cases h2 : y = Str.ofString "head"
      · rw [if_pos h2, h2, m2]
      · rw [if_neg h2]
        by_cases h3 : y = Str.ofString "key"
        · rw [if_pos h3, h3, m3]
        · rw [if_neg h3]
  rw [em] at F
  clear em
  revert hE
  dsimp only [lawEnv, lawScope, lawStmts, fnB, fnS, fifth, scopeOf, PySem.Challenge.pw_lc0006_01, drop4]
  intro hE
  repeat' ((fail_if_success (with_reducible (show wpAny _ _ (call (Value.ref 38) _) _ _ _))); first | (k_unfold; (try dsimp only)) | (k_end; wrow_close) | walk1 | (dsimp only; walk1) | (leave1; walk_say "STEP leave1"; try dsimp only) | fail "no step")
  · (rename Fr _ _ _ _ => F9)
    (rename News _ _ _ _ => N9)
    have N8 := pick8 N9
    k_dflt (refine' init_bytes _ _ _ _ _ _ _ _ _ _ _ _ _ _ _ _ _ _ _ _ _ _ _ _ key _ ?a1 ?a2 ?a3 ?a4 ?a5 ?a6 ?a7 ?a8 ?a9 ?a10 ?a11 ?ar)
    (case a1 => exact B)
    (case a2 => exact F9)
    (case a3 => exact X)
    (case a4 => exact N8)
    (case a5 => exact T)
    (case a6 => rfl)
    (case a7 => decide)
    (case a8 => exact Nat.le_of_ble_eq_true rfl)
    (case a9 => exact KBa.ints_make hki)
    (case a10 => exact Nat.le_trans hk1 (by decide))
    (case a11 => exact hk0)
    (case ar =>
      clear N8 N9 F9
      intro x dx l h' tk' vs c t1 t2 t3 ti tj F' N' q1 q2 q3 hIv
      unfold NLt at q2 q3
      simp only [AllLt, and_true] at q1
      (try k_fold)
      repeat' ((fail_if_success (with_reducible (show wpAny _ _ (execs (Stmt.Assign [Expr.Name (Str.ofString "told") _] _ _ :: _) _) _ _ _))); first | (k_unfold; (try dsimp only)) | (k_end; wrow_close) | walk1 | (dsimp only; walk1) | (leave1; walk_say "STEP leave1"; try dsimp only) | fail "no step")
      (try k_unfold)
      (try dsimp only)
      (rename Fr _ _ _ _ => F9)
      (rename News _ _ _ _ => N9)
      (rename _ ≠ _ ∧ _ ≠ _ ∧ _ ≠ _ ∧ _ ≠ _ ∧ _ ≠ _ => ne9)
      clear ne9
      k_dflt (refine' restA _ _ _ _ _ _ _ _ _ _ _ _ _ sl svs ns l x dx lk _ _ (L + 1) (L + 1 + 1) vs kvs _ _ key _ c kc _ _ t1 t2 t3 ti tj _ _ _ B F9 X T N9 ?a1 rfl rfl ?a2 ?a3 ?a4 ?a5 ?a6 ?a7 hL hI hn63 hIv hIk ?a8 ?a9 hk0 hk1 ?b1 ?b2 ?b3 ?b4 hE)
      (case a1 => exact nns_of nl1 nl2 (by omega) (by omega) (by omega) (by omega) (by omega) (by omega))
      (case a2 => assumption)
      (case a3 => assumption)
      (case a4 => with_unfolding_all rfl)
      (case a5 => with_unfolding_all rfl)
      (case a6 => with_unfolding_all rfl)
      (case a7 => with_unfolding_all rfl)
      (case a8 => with_reducible assumption)
      (case a9 => with_reducible assumption)
      (case b1 => rw [List.length_append, List.length_singleton]; omega)
      (case b2 => rw [List.length_append, List.length_singleton, List.length_map, List.length_take]; omega)
      (case b3 => exact msg_in _ _ _)
      (case b4 => exact fun h' tk m' F => hret h' tk m' F))
  · (rename Fr _ _ _ _ => F9)
    (rename News _ _ _ _ => N9)
    have N8 := pick8 N9
    k_dflt (refine' init_list _ _ _ _ _ _ _ _ _ _ _ _ _ _ _ _ _ _ _ _ _ _ lk kvs key kc _ ?a1 ?a2 ?a3 ?a4 ?a5 ?a6 ?a7 ?a8 ?a9 ?a10 ?a11 ?ar)
    (case a1 => exact B)
    (case a2 => exact F9)
    (case a3 => exact X)
    (case a4 => exact N8)
    (case a5 => exact T)
    (case a6 => rfl)
    (case a7 => decide)
    (case a8 => exact Nat.le_of_ble_eq_true rfl)
    (case a9 => exact hIk)
    (case a10 => exact Nat.lt_of_le_of_lt hk1 (by decide))
    (case a11 => exact hk0)
    (case ar =>
      clear N8 N9 F9
      intro x dx l h' tk' vs c t1 t2 t3 ti tj F' N' q0 q1 q2 q3 hIv
      unfold NLt at q0 q2 q3
      simp only [AllLt, and_true] at q1
      (try k_fold)
      repeat' ((fail_if_success (with_reducible (show wpAny _ _ (execs (Stmt.Assign [Expr.Name (Str.ofString "told") _] _ _ :: _) _) _ _ _))); first | (k_unfold; (try dsimp only)) | (k_end; wrow_close) | walk1 | (dsimp only; walk1) | (leave1; walk_say "STEP leave1"; try dsimp only) | fail "no step")
      (try k_unfold)
      (try dsimp only)
      (rename Fr _ _ _ _ => F9)
      (rename News _ _ _ _ => N9)
      (rename _ ≠ _ ∧ _ ≠ _ ∧ _ ≠ _ ∧ _ ≠ _ ∧ _ ≠ _ => ne9)
      clear ne9
      k_dflt (refine' restA _ _ _ _ _ _ _ _ _ _ _ _ _ sl svs ns l x dx lk _ _ (L + 1) (L + 1 + 1) vs kvs _ _ key _ c kc _ _ t1 t2 t3 ti tj _ _ _ B F9 X T N9 ?a1 rfl rfl ?a2 ?a3 ?a4 ?a5 ?a6 ?a7 hL hI hn63 hIv hIk ?a8 ?a9 hk0 hk1 ?b1 ?b2 ?b3 ?b4 hE)
      (case a1 => exact nns_of nl1 nl2 (by omega) (by omega) (by omega) (by omega) (by omega) (by omega))
      (case a2 => assumption)
      (case a3 => assumption)
      (case a4 => with_unfolding_all rfl)
      (case a5 => with_unfolding_all rfl)
      (case a6 => with_unfolding_all rfl)
      (case a7 => with_unfolding_all rfl)
      (case a8 => with_reducible assumption)
      (case a9 => with_reducible assumption)
      (case b1 => rw [List.length_append, List.length_singleton]; omega)
      (case b2 => rw [List.length_append, List.length_singleton, List.length_map, List.length_take]; omega)
      (case b3 => exact msg_in _ _ _)
      (case b4 => exact fun h' tk m' F => hret h' tk m' F))
end Mine
end PartRB

section PartMainT
open PySem PySem.W PyProof.Rows PySem.Spec PySem.Calls
set_option maxRecDepth 100000
set_option maxHeartbeats 8000000
namespace Mine
theorem key_len (l : List Int) (g : Int → Int) (h : decide (List.map g l = []) = false) : 0 < (List.map g l).length := by
  have q := of_decide_eq_false h
  exact List.length_pos_iff.mpr q
theorem fm_in (l : List Int) : KBa.In (List.map (fun k' => Int.fmod k' 256) l) := in_fm
theorem one_in (h : Int) : KBa.In [Int.fmod h 256] := by
  intro n hn
  rw [List.mem_singleton.mp hn]
  exact md _
theorem pickA {h₀ : Heap} {L : Addr} {h : Heap} {p1 p2 p3 p4 p5 p6 : Addr × Obj} (N : News h₀ L h [p1, p2, p3, p4, p5, p6]) : News h₀ L h [p1, p6, p5] := kst_newsOf N (by
  intro p hp
  simp only [List.mem_cons, List.not_mem_nil, or_false] at hp ⊢
  rcases hp with rfl | rfl | rfl <;> simp)
theorem pickB {h₀ : Heap} {L : Addr} {h : Heap} {p1 p2 p3 p4 p5 : Addr × Obj} (N : News h₀ L h [p1, p2, p3, p4, p5]) : News h₀ L h [p2, p5, p4] := kst_newsOf N (by
  intro p hp
  simp only [List.mem_cons, List.not_mem_nil, or_false] at hp ⊢
  rcases hp with rfl | rfl | rfl <;> simp)
end Mine
end PartMainT

open PySem.Spec PySem.Calls
set_option maxRecDepth 100000 in
set_option maxHeartbeats 8000000 in
theorem PySem.Challenge.cw_lc0006_01_holds : PySem.Challenge.rw_lc0006_01.Holds := by
  refine Mine.hd (by
    w_top off
    k_go0
    all_goals (try k_fold)
    repeat' ((fail_if_success (with_reducible (show wpAny _ _ (execs (Stmt.Assign [Expr.Name (Str.ofString "kept") _] _ _ :: _) _) _ _ _))); first | (k_unfold; (try dsimp only)) | (k_end; wrow_close) | walk1 | (dsimp only; walk1) | (leave1; walk_say "STEP leave1"; try dsimp only) | fail "no step")
    all_goals (
      (try k_unfold)
      (try dsimp only)
      (rename Fr _ _ _ _ => F9)
      (rename News _ _ _ _ => N9)
      (rename Top _ _ _ _ _ _ => T9)
      (rename Below _ _ _ _ => B9)
      (rename Heap.IsList _ _ _ => L9)
      (rename ¬ _ < (List.length _ : Int) => H9)
      (try skip))
    · (have w1 : True := trivial)
      k_dflt (refine' Mine.restB _ _ _ _ _ _ _ _ _ _ _ _ _ _ _ _ _ [Value.int _ _] _ _ _ _ _ _ _ _ B9 F9 ?a1 T9 (Mine.pickA N9) ?a2 ?a3 ?a4 ?a5 ?a6 ?a7 ?a8 L9 ?a9 ?b1 ?b2 ?b3 ?b4 ?b5 ?hret ?hE)
      (case a1 => assumption)
      (case a2 => unfold Mine.NN; omega)
      (case a3 => unfold Mine.NN; omega)
      (case a4 => assumption)
      (case a5 => assumption)
      (case a6 => with_unfolding_all rfl)
      (case a7 => with_unfolding_all rfl)
      (case a8 => with_unfolding_all rfl)
      (case a9 => with_reducible assumption)
      (case b1 => omega)
      (case b2 => exact IntsAre.cons _ _ .nil)
      (case b3 => exact Nat.zero_lt_one)
      (case b4 => exact Nat.le_of_ble_eq_true rfl)
      (case b5 => exact Mine.one_in _)
      (case hE => passes_own)
      (case hret =>
        intro h' tk m' F'
        clear F9 N9
        k_steps)
    · (have w2 : True := trivial)
      k_dflt (refine' Mine.restB _ _ _ _ _ _ _ _ _ _ _ _ _ _ _ _ _ _ _ _ _ _ _ _ _ _ B9 F9 ?a1 T9 (Mine.pickB N9) ?a2 ?a3 ?a4 ?a5 ?a6 ?a7 ?a8 L9 ?a9 ?b1 ?b2 ?b3 ?b4 ?b5 ?hret ?hE)
      (case a1 => assumption)
      (case a2 => unfold Mine.NN; omega)
      (case a3 => unfold Mine.NN; omega)
      (case a4 => assumption)
      (case a5 => assumption)
      (case a6 => with_unfolding_all rfl)
      (case a7 => with_unfolding_all rfl)
      (case a8 => with_unfolding_all rfl)
      (case a9 => with_reducible assumption)
      (case b1 => omega)
      (case b2 => with_reducible assumption)
      (case b3 => exact Mine.key_len _ _ (by with_reducible assumption))
      (case b4 => (simp only [List.length_map, List.length_take, List.length_drop]; omega))
      (case b5 => exact Mine.fm_in _)
      (case hE => passes_own)
      (case hret =>
        intro h' tk m' F'
        clear F9 N9
        k_steps)
    · (have w3 : True := trivial)
      k_dflt (refine' Mine.restB _ _ _ _ _ _ _ _ _ _ _ _ _ _ _ _ _ [Value.int _ _] _ _ _ _ _ _ _ _ B9 F9 ?a1 T9 (Mine.pickA N9) ?a2 ?a3 ?a4 ?a5 ?a6 ?a7 ?a8 L9 ?a9 ?b1 ?b2 ?b3 ?b4 ?b5 ?hret ?hE)
      (case a1 => assumption)
      (case a2 => unfold Mine.NN; omega)
      (case a3 => unfold Mine.NN; omega)
      (case a4 => assumption)
      (case a5 => assumption)
      (case a6 => with_unfolding_all rfl)
      (case a7 => with_unfolding_all rfl)
      (case a8 => with_unfolding_all rfl)
      (case a9 => with_reducible assumption)
      (case b1 => omega)
      (case b2 => exact IntsAre.cons _ _ .nil)
      (case b3 => exact Nat.zero_lt_one)
      (case b4 => exact Nat.le_of_ble_eq_true rfl)
      (case b5 => exact Mine.one_in _)
      (case hE => passes_own)
      (case hret =>
        intro h' tk m' F'
        clear F9 N9
        k_steps)
    · exfalso
      (have w4 : True := trivial)
      rename ¬ _ < _ => hz
      rename decide (_ = _) = false => hd9
      refine of_decide_eq_false hd9 ?_
      refine List.map_eq_nil_iff.mpr (List.eq_nil_of_length_eq_zero ?_)
      simp only [List.length_take, List.length_drop]
      omega)
