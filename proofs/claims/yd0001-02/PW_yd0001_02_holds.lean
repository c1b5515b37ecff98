import PyProof.Rows.All
import Wide.All
import OpenK.AllK
import Wide.FinOn
import KE.BitLaws
import PySem.Challenge.RW_yd0001_02
open PySem PySem.W PyProof.Rows
set_option Elab.async false
set_option maxRecDepth 100000
set_option maxHeartbeats 8000000
namespace Mine
open_top hd for PySem.Challenge.rw_yd0001_02
end Mine

namespace Mine

theorem xor_add (m n : Nat) : (m ^^^ n) + 2 * (m &&& n) = m + n := by
  have h := nat_or_add_and m n
  have h2 : (m ^^^ n) + (m &&& n) = m ||| n := by
    have e := nat_or_add_and (m ^^^ n) (m &&& n)
    have z : (m ^^^ n) &&& (m &&& n) = 0 := by
      apply Nat.eq_of_testBit_eq; intro i
      simp only [Nat.testBit_and, Nat.testBit_xor, Nat.zero_testBit]
      cases m.testBit i <;> cases n.testBit i <;> rfl
    have o : (m ^^^ n) ||| (m &&& n) = m ||| n := by
      apply Nat.eq_of_testBit_eq; intro i
      simp only [Nat.testBit_and, Nat.testBit_xor, Nat.testBit_or]
      cases m.testBit i <;> cases n.testBit i <;> rfl
    rw [z, o] at e
    omega
  omega
theorem and_cast (m n : Nat) : Builtin.bitAnd (m : Int) (n : Int) = ((m &&& n : Nat) : Int) := by
  rw [bitAnd_pp (Int.natCast_nonneg _) (Int.natCast_nonneg _)]; rfl
theorem xor_cast (m n : Nat) : Builtin.bitXor (m : Int) (n : Int) = ((m ^^^ n : Nat) : Int) := by
  rw [bitXor_and, and_cast]
  have := xor_add m n
  omega

def selOne (cw x y : Int) : Int := Builtin.bitXor x (Builtin.bitAnd cw (Builtin.bitXor x y))
def selRow (cw : Int) (xs ys : List Int) : List Int := List.zipWith (selOne cw) xs ys
def bt (x : Int) (b : Nat) : Int := x / 2 ^ b % 2
def In (ns : List Int) : Prop := ∀ n ∈ ns, 0 ≤ n ∧ n < 256

theorem bt_cast (n b : Nat) : bt (n : Int) b = if n.testBit b then 1 else 0 := by
  have e : bt (n : Int) b = ((n / 2 ^ b % 2 : Nat) : Int) := by unfold bt; simp
  rw [e, Nat.testBit_eq_decide_div_mod_eq]
  have : n / 2 ^ b % 2 < 2 := Nat.mod_lt _ (by decide)
  by_cases h : n / 2 ^ b % 2 = 1
  · simp [h]
  · have h0 : n / 2 ^ b % 2 = 0 := by omega
    simp [h0]
theorem bt_01 (x : Int) (b : Nat) : bt x b = 0 ∨ bt x b = 1 := by
  unfold bt
  have h1 := Int.emod_nonneg (x / 2 ^ b) (by decide : (2 : Int) ≠ 0)
  have h2 := Int.emod_lt_of_pos (x / 2 ^ b) (by decide : (0 : Int) < 2)
  omega

theorem selOne_cast (c x y : Nat) : selOne (c : Int) (x : Int) (y : Int) = ((x ^^^ (c &&& (x ^^^ y)) : Nat) : Int) := by
  unfold selOne
  rw [xor_cast, and_cast, xor_cast]
theorem selOne_bt {c x y : Int} (hc : 0 ≤ c) (hx : 0 ≤ x) (hy : 0 ≤ y) (b : Nat) : bt (selOne c x y) b = if bt c b = 1 then bt y b else bt x b := by
  obtain ⟨c, rfl⟩ := Int.eq_ofNat_of_zero_le hc
  obtain ⟨x, rfl⟩ := Int.eq_ofNat_of_zero_le hx
  obtain ⟨y, rfl⟩ := Int.eq_ofNat_of_zero_le hy
  rw [selOne_cast, bt_cast, bt_cast, bt_cast, bt_cast]
  simp only [Nat.testBit_xor, Nat.testBit_and]
  cases c.testBit b <;> cases x.testBit b <;> cases y.testBit b <;> rfl
theorem selOne_in {c x y : Int} (hc : 0 ≤ c ∧ c < 256) (hx : 0 ≤ x ∧ x < 256) (hy : 0 ≤ y ∧ y < 256) : 0 ≤ selOne c x y ∧ selOne c x y < 256 := by
  obtain ⟨c, rfl⟩ := Int.eq_ofNat_of_zero_le hc.1
  obtain ⟨x, rfl⟩ := Int.eq_ofNat_of_zero_le hx.1
  obtain ⟨y, rfl⟩ := Int.eq_ofNat_of_zero_le hy.1
  rw [selOne_cast]
  have hx' : x < 2 ^ 8 := by omega
  have hy' : y < 2 ^ 8 := by omega
  have hc' : c < 2 ^ 8 := by omega
  have h := Nat.xor_lt_two_pow hx' (Nat.and_lt_two_pow c (Nat.xor_lt_two_pow hx' hy'))
  omega

theorem bt_mod (x : Int) {b : Nat} (hb : b < 8) : bt (x % 256) b = bt x b := by
  have h : b = 0 ∨ b = 1 ∨ b = 2 ∨ b = 3 ∨ b = 4 ∨ b = 5 ∨ b = 6 ∨ b = 7 := by omega
  unfold bt
  rcases h with rfl | rfl | rfl | rfl | rfl | rfl | rfl | rfl <;> omega
theorem fmod_256 (x : Int) : Int.fmod x 256 = x % 256 := Int.fmod_eq_emod_of_nonneg _ (by decide)

theorem bt_f (x : Int) (b : Nat) : (x.fdiv (2 ^ (0 + (b : Int)).toNat)).fmod 2 = bt x b := by
  have e : (0 + (b : Int)).toNat = b := by omega
  rw [e, Int.fmod_eq_emod_of_nonneg _ (by decide), Int.fdiv_eq_ediv_of_nonneg _ (Int.pow_nonneg (by decide))]
  rfl

def bsum (f : Nat → Int) : Nat → Int
  | 0 => 0
  | n + 1 => bsum f n + f n * 2 ^ n
theorem bsum_congr {f g : Nat → Int} : ∀ {n : Nat}, (∀ b, b < n → f b = g b) → bsum f n = bsum g n
  | 0, _ => rfl
  | n + 1, h => by
    show bsum f n + f n * 2 ^ n = bsum g n + g n * 2 ^ n
    rw [bsum_congr fun b hb => h b (by omega), h n (by omega)]
theorem bsum_bt {x : Int} (h0 : 0 ≤ x) (h1 : x < 256) : bsum (bt x) 8 = x := by
  simp only [bsum, bt]
  omega
theorem bsum_in {f : Nat → Int} (h : ∀ b, f b = 0 ∨ f b = 1) : 0 ≤ bsum f 8 ∧ bsum f 8 < 256 := by
  have h0 := h 0; have h1 := h 1; have h2 := h 2; have h3 := h 3; have h4 := h 4; have h5 := h 5; have h6 := h 6; have h7 := h 7
  simp only [bsum]
  omega

theorem In.getD {ns : List Int} (h : In ns) (j : Nat) : 0 ≤ ns.getD j 0 ∧ ns.getD j 0 < 256 := by
  rw [List.getD_eq_getElem?_getD]
  by_cases hj : j < ns.length
  · rw [List.getElem?_eq_getElem hj]; exact h _ (List.getElem_mem hj)
  · rw [List.getElem?_eq_none (by omega)]; exact ⟨by decide, by decide⟩
theorem In.of_getD {ns : List Int} (h : ∀ j, j < ns.length → 0 ≤ ns.getD j 0 ∧ ns.getD j 0 < 256) : In ns := by
  intro n hn
  obtain ⟨j, hj, rfl⟩ := List.getElem_of_mem hn
  have := h j hj
  rwa [List.getD_eq_getElem?_getD, List.getElem?_eq_getElem hj] at this
theorem list_ext {xs ys : List Int} (hl : xs.length = ys.length) (h : ∀ j, j < xs.length → xs.getD j 0 = ys.getD j 0) : xs = ys := by
  apply List.ext_getElem hl
  intro i h1 h2
  have := h i h1
  rwa [List.getD_eq_getElem?_getD, List.getD_eq_getElem?_getD, List.getElem?_eq_getElem h1, List.getElem?_eq_getElem h2] at this
theorem selRow_length (cw : Int) {xs ys : List Int} (h : ys.length = xs.length) : (selRow cw xs ys).length = xs.length := by simp [selRow, h]
theorem selRow_getD (cw : Int) {xs ys : List Int} (h : ys.length = xs.length) {j : Nat} (hj : j < xs.length) : (selRow cw xs ys).getD j 0 = selOne cw (xs.getD j 0) (ys.getD j 0) := by
  have hy : j < ys.length := by omega
  simp only [List.getD_eq_getElem?_getD, selRow, List.getElem?_zipWith, List.getElem?_eq_getElem hj, List.getElem?_eq_getElem hy]
  rfl
theorem selRow_in {cw : Int} {xs ys : List Int} (h : ys.length = xs.length) (hc : 0 ≤ cw ∧ cw < 256) (hx : In xs) (hy : In ys) : In (selRow cw xs ys) := by
  apply In.of_getD
  intro j hj
  rw [selRow_length _ h] at hj
  rw [selRow_getD _ h hj]
  exact selOne_in hc (hx.getD j) (hy.getD j)

/-- where the turning stands: what is below i is chosen. -/
def SelJ (cw : Int) (xs ys : List Int) (i : Nat) (ns : List Int) : Prop := ns.length = xs.length ∧ ∀ j, j < i → ns.getD j 0 = selOne cw (xs.getD j 0) (ys.getD j 0)
theorem SelJ.zero {cw : Int} {xs ys ns : List Int} (h : ns.length = xs.length) : SelJ cw xs ys 0 ns := ⟨h, fun _ h => absurd h (Nat.not_lt_zero _)⟩
theorem SelJ.succ {cw : Int} {xs ys ns : List Int} {i : Nat} (h : SelJ cw xs ys i ns) (hi : i < xs.length) {v : Int} (hv : v = selOne cw (xs.getD i 0) (ys.getD i 0)) : SelJ cw xs ys (i + 1) (ns.set i v) := by
  refine ⟨by rw [List.length_set]; exact h.1, fun j hj => ?_⟩
  by_cases e : j = i
  · subst e
    rw [List.getD_eq_getElem?_getD, List.getElem?_set_self (by rw [h.1]; exact hi)]
    exact hv
  · rw [List.getD_eq_getElem?_getD, List.getElem?_set_ne (fun x => e x.symm), ← List.getD_eq_getElem?_getD]
    exact h.2 j (by omega)
theorem SelJ.done {cw : Int} {xs ys ns : List Int} (h : SelJ cw xs ys xs.length ns) (hl : ys.length = xs.length) : ns = selRow cw xs ys := by
  apply list_ext
  · rw [h.1, selRow_length _ hl]
  · intro j hj
    rw [h.1] at hj
    rw [h.2 j hj, selRow_getD _ hl hj]
end Mine

namespace Mine
theorem ext4 {α : Type} {d : α} {xs ys : List α} (hx : xs.length = 4) (hy : ys.length = 4) (h : ∀ i, i < 4 → xs.getD i d = ys.getD i d) : xs = ys := by
  apply List.ext_getElem (by omega)
  intro i h1 h2
  have := h i (by omega)
  rwa [List.getD_eq_getElem?_getD, List.getD_eq_getElem?_getD, List.getElem?_eq_getElem h1, List.getElem?_eq_getElem h2] at this
theorem getD_set {α : Type} (l : List α) (i j : Nat) (v d : α) (hi : i < l.length) : (l.set i v).getD j d = if j = i then v else l.getD j d := by
  rw [List.getD_eq_getElem?_getD, List.getD_eq_getElem?_getD, List.getElem?_set]
  by_cases e : i = j
  · subst e; simp [hi]
  · rw [if_neg e, if_neg (fun h => e h.symm)]
/-- one change of two rows. -/
def chg (rs : List (List Int)) (d : Int × Int × Int) : List (List Int) :=
  (rs.set d.1.toNat (selRow (Int.fmod (-d.2.2) 256) (rs.getD d.1.toNat []) (rs.getD d.2.1.toNat []))).set d.2.1.toNat (selRow (Int.fmod (-d.2.2) 256) (rs.getD d.2.1.toNat []) (rs.getD d.1.toNat []))
/-- the names' way of one bit. -/
def swp (b : Nat) (nl : List Int) (d : Int × Int × Int) : List Int :=
  if bt (0 - d.2.2) b = 1 then (nl.set d.1.toNat (nl.getD d.2.1.toNat 0)).set d.2.1.toNat (nl.getD d.1.toNat 0) else nl
structure Ok (mn : Nat) (rs : List (List Int)) : Prop where
  four : rs.length = 4
  len : ∀ i, i < 4 → (rs.getD i []).length = mn
  oct : ∀ i, i < 4 → In (rs.getD i [])
def Vd (d : Int × Int × Int) : Prop := (0 ≤ d.1 ∧ d.1 < 4) ∧ (0 ≤ d.2.1 ∧ d.2.1 < 4)
theorem cw_in3 (c : Int) : 0 ≤ Int.fmod (-c) 256 ∧ Int.fmod (-c) 256 < 256 := by
  rw [fmod_256]; omega
theorem chg_get {rs : List (List Int)} {d : Int × Int × Int} (h4 : rs.length = 4) (hv : Vd d) (i : Nat) :
    (chg rs d).getD i [] = if i = d.2.1.toNat then selRow (Int.fmod (-d.2.2) 256) (rs.getD d.2.1.toNat []) (rs.getD d.1.toNat []) else if i = d.1.toNat then selRow (Int.fmod (-d.2.2) 256) (rs.getD d.1.toNat []) (rs.getD d.2.1.toNat []) else rs.getD i [] := by
  obtain ⟨⟨a1, a2⟩, a3, a4⟩ := hv
  unfold chg
  rw [getD_set _ _ _ _ _ (by rw [List.length_set, h4]; omega), getD_set _ _ _ _ _ (by rw [h4]; omega)]
theorem Ok.chg {mn : Nat} {rs : List (List Int)} (h : Ok mn rs) {d : Int × Int × Int} (hv : Vd d) : Ok mn (chg rs d) := by
  have hl : d.1.toNat < 4 := by have := hv.1; omega
  have hr : d.2.1.toNat < 4 := by have := hv.2; omega
  refine ⟨by simp [Mine.chg, h.four], fun i hi => ?_, fun i hi => ?_⟩
  · rw [chg_get h.four hv]
    split
    · rw [selRow_length _ (by rw [h.len _ hl, h.len _ hr]), h.len _ hr]
    split
    · rw [selRow_length _ (by rw [h.len _ hl, h.len _ hr]), h.len _ hl]
    exact h.len i hi
  · rw [chg_get h.four hv]
    split
    · exact selRow_in (by rw [h.len _ hl, h.len _ hr]) (cw_in3 _) (h.oct _ hr) (h.oct _ hl)
    split
    · exact selRow_in (by rw [h.len _ hl, h.len _ hr]) (cw_in3 _) (h.oct _ hl) (h.oct _ hr)
    exact h.oct i hi
theorem Ok.chgs {mn : Nat} : ∀ {ds : List (Int × Int × Int)} {rs : List (List Int)}, Ok mn rs → (∀ d ∈ ds, Vd d) → Ok mn (ds.foldl Mine.chg rs)
  | [], _, h, _ => h
  | d :: ds, rs, h, hv => Ok.chgs (ds := ds) (rs := Mine.chg rs d) (h.chg (hv d (.head _))) fun e he => hv e (.tail _ he)
theorem bt_cw (c : Int) {b : Nat} (hb : b < 8) : bt (Int.fmod (-c) 256) b = bt (0 - c) b := by
  rw [fmod_256, bt_mod _ hb, Int.zero_sub]
theorem selRow_bt {mn b a : Nat} (hb : b < 8) {c : Int} {xs ys : List Int} (hx : xs.length = mn) (hy : ys.length = mn) (ix : In xs) (iy : In ys) (ha : a < mn) :
    bt ((selRow (Int.fmod (-c) 256) xs ys).getD a 0) b = if bt (0 - c) b = 1 then bt (ys.getD a 0) b else bt (xs.getD a 0) b := by
  rw [selRow_getD _ (by omega) (by omega), selOne_bt (cw_in3 c).1 (ix.getD a).1 (iy.getD a).1, bt_cw c hb]
theorem chg_way {mn b : Nat} (hb : b < 8) {rs rs₀ : List (List Int)} {nl : List Int} {d : Int × Int × Int} (h : Ok mn rs) (hv : Vd d) (hn : nl.length = 4)
    (hw : ∀ i a, i < 4 → a < mn → bt ((rs.getD i []).getD a 0) b = bt ((rs₀.getD (nl.getD i 0).toNat []).getD a 0) b) :
    ∀ i a, i < 4 → a < mn → bt (((chg rs d).getD i []).getD a 0) b = bt ((rs₀.getD ((swp b nl d).getD i 0).toNat []).getD a 0) b := by
  intro i a hi ha
  have hl : d.1.toNat < 4 := by have := hv.1; omega
  have hr : d.2.1.toNat < 4 := by have := hv.2; omega
  rw [chg_get h.four hv]
  unfold swp
  by_cases hc : bt (0 - d.2.2) b = 1
  · rw [if_pos hc, getD_set _ _ _ _ _ (by rw [List.length_set, hn]; exact hr), getD_set _ _ _ _ _ (by rw [hn]; exact hl)]
    by_cases e : i = d.2.1.toNat
    · rw [if_pos e, if_pos e, selRow_bt hb (h.len _ hr) (h.len _ hl) (h.oct _ hr) (h.oct _ hl) ha, if_pos hc]
      exact hw _ _ hl ha
    · rw [if_neg e, if_neg e]
      by_cases e2 : i = d.1.toNat
      · rw [if_pos e2, if_pos e2, selRow_bt hb (h.len _ hl) (h.len _ hr) (h.oct _ hl) (h.oct _ hr) ha, if_pos hc]
        exact hw _ _ hr ha
      · rw [if_neg e2, if_neg e2]; exact hw _ _ hi ha
  · rw [if_neg hc]
    by_cases e : i = d.2.1.toNat
    · rw [if_pos e, selRow_bt hb (h.len _ hr) (h.len _ hl) (h.oct _ hr) (h.oct _ hl) ha, if_neg hc, ← e]
      exact hw _ _ hi ha
    · rw [if_neg e]
      by_cases e2 : i = d.1.toNat
      · rw [if_pos e2, selRow_bt hb (h.len _ hl) (h.len _ hr) (h.oct _ hl) (h.oct _ hr) ha, if_neg hc, ← e2]
        exact hw _ _ hi ha
      · rw [if_neg e2]; exact hw _ _ hi ha
theorem swp_len (b : Nat) (nl : List Int) (d : Int × Int × Int) : (swp b nl d).length = nl.length := by
  unfold swp; split <;> simp
theorem chgs_way {mn b : Nat} (hb : b < 8) {rs₀ : List (List Int)} : ∀ {ds : List (Int × Int × Int)} {rs : List (List Int)} {nl : List Int}, Ok mn rs → (∀ d ∈ ds, Vd d) → nl.length = 4 →
    (∀ i a, i < 4 → a < mn → bt ((rs.getD i []).getD a 0) b = bt ((rs₀.getD (nl.getD i 0).toNat []).getD a 0) b) →
    ∀ i a, i < 4 → a < mn → bt (((ds.foldl chg rs).getD i []).getD a 0) b = bt ((rs₀.getD ((ds.foldl (swp b) nl).getD i 0).toNat []).getD a 0) b
  | [], _, _, _, _, _, hw => hw
  | d :: ds, rs, nl, h, hv, hn, hw => chgs_way hb (ds := ds) (rs := chg rs d) (nl := swp b nl d) (h.chg (hv d (.head _))) (fun e he => hv e (.tail _ he)) (by rw [swp_len, hn]) (chg_way hb h (hv d (.head _)) hn hw)
/-- what the law tells of one octet. -/
def toldV (rs₀ : List (List Int)) (ds : List (Int × Int × Int)) (i a : Nat) (b : Nat) : Int := bt ((rs₀.getD ((ds.foldl (swp b) [0, 1, 2, 3]).getD i 0).toNat []).getD a 0) b
theorem told4 {mn : Nat} {rs : List (List Int)} {ds : List (Int × Int × Int)} (h : Ok mn rs) (hv : ∀ d ∈ ds, Vd d) {i : Nat} (hi : i < 4) :
    (ds.foldl chg rs).getD i [] = (List.range mn).map fun a => bsum (toldV rs ds i a) 8 := by
  have hc := h.chgs hv
  apply list_ext
  · simp only [hc.len i hi, List.length_map, List.length_range]
  · intro a ha
    rw [hc.len i hi] at ha
    have e : ((List.range mn).map fun a => bsum (toldV rs ds i a) 8).getD a 0 = bsum (toldV rs ds i a) 8 := by simp [List.getD_eq_getElem?_getD, ha]
    rw [e, ← bsum_bt ((hc.oct i hi).getD a).1 ((hc.oct i hi).getD a).2]
    refine bsum_congr fun b hb => ?_
    refine chgs_way hb h hv rfl (fun i a hi ha => ?_) i a hi ha
    have : i = 0 ∨ i = 1 ∨ i = 2 ∨ i = 3 := by omega
    rcases this with rfl | rfl | rfl | rfl <;> rfl
theorem oct_ext {x y : Int} (hx : 0 ≤ x ∧ x < 256) (hy : 0 ≤ y ∧ y < 256) (h : ∀ b, b < 8 → bt x b = bt y b) : x = y := by
  rw [← bsum_bt hx.1 hx.2, ← bsum_bt hy.1 hy.2]
  exact bsum_congr h
theorem sel_inv {mn : Nat} {c : Int} {xs ys : List Int} (hx : xs.length = mn) (hy : ys.length = mn) (ix : In xs) (iy : In ys) :
    selRow (Int.fmod (-c) 256) (selRow (Int.fmod (-c) 256) xs ys) (selRow (Int.fmod (-c) 256) ys xs) = xs := by
  have l1 : (selRow (Int.fmod (-c) 256) xs ys).length = mn := by rw [selRow_length _ (by omega)]; exact hx
  have l2 : (selRow (Int.fmod (-c) 256) ys xs).length = mn := by rw [selRow_length _ (by omega)]; exact hy
  have i1 := selRow_in (by omega) (cw_in3 c) ix iy
  have i2 := selRow_in (by omega) (cw_in3 c) iy ix
  have i3 := selRow_in (by omega) (cw_in3 c) i1 i2
  apply list_ext
  · rw [selRow_length _ (by omega), l1, hx]
  · intro a ha
    rw [selRow_length _ (by omega), l1] at ha
    refine oct_ext (i3.getD a) (ix.getD a) fun b hb => ?_
    rw [selRow_bt hb l1 l2 i1 i2 ha]
    split
    · rename_i hc
      rw [selRow_bt hb hy hx iy ix ha, if_pos hc]
    · rename_i hc
      rw [selRow_bt hb hx hy ix iy ha, if_neg hc]
theorem sel_same {mn : Nat} {c : Int} {xs : List Int} (hx : xs.length = mn) (ix : In xs) : selRow (Int.fmod (-c) 256) xs xs = xs := by
  have i1 := selRow_in rfl (cw_in3 c) ix ix
  apply list_ext
  · rw [selRow_length _ rfl]
  · intro a ha
    rw [selRow_length _ rfl] at ha
    refine oct_ext (i1.getD a) (ix.getD a) fun b hb => ?_
    rw [selRow_bt hb rfl rfl ix ix ha]
    split <;> rfl
theorem chg_inv {mn : Nat} {rs : List (List Int)} {d : Int × Int × Int} (h : Ok mn rs) (hv : Vd d) : chg (chg rs d) d = rs := by
  have hl : d.1.toNat < 4 := by have := hv.1; omega
  have hr : d.2.1.toNat < 4 := by have := hv.2; omega
  have h1 := h.chg hv
  refine ext4 (d := []) (h1.chg hv).four h.four fun i hi => ?_
  rw [chg_get h1.four hv, chg_get h.four hv d.2.1.toNat, chg_get h.four hv d.1.toNat, chg_get h.four hv i, if_pos rfl, if_pos rfl]
  by_cases e0 : d.1.toNat = d.2.1.toNat
  · rw [e0, if_pos rfl, sel_same (h.len _ hr) (h.oct _ hr), sel_same (h.len _ hr) (h.oct _ hr)]
    by_cases e : i = d.2.1.toNat
    · rw [if_pos e, e]
    · rw [if_neg e, if_neg e, if_neg e, if_neg e]
  · rw [if_neg e0, sel_inv (h.len _ hr) (h.len _ hl) (h.oct _ hr) (h.oct _ hl), sel_inv (h.len _ hl) (h.len _ hr) (h.oct _ hl) (h.oct _ hr)]
    by_cases e : i = d.2.1.toNat
    · rw [if_pos e, e]
    · rw [if_neg e]
      by_cases e2 : i = d.1.toNat
      · rw [if_pos e2, e2]
      · rw [if_neg e2, if_neg e, if_neg e2]
theorem chgs_back {mn : Nat} : ∀ {ds : List (Int × Int × Int)} {rs : List (List Int)}, Ok mn rs → (∀ d ∈ ds, Vd d) → ds.reverse.foldl chg (ds.foldl chg rs) = rs
  | [], _, _, _ => rfl
  | d :: ds, rs, h, hv => by
    have hd := hv d (.head _)
    have ih := chgs_back (ds := ds) (h.chg hd) fun e he => hv e (.tail _ he)
    rw [List.reverse_cons, List.foldl_append, List.foldl_cons, List.foldl_cons, ih]
    exact chg_inv h hd
end Mine

namespace Mine
def Tag (_ : OpenLaw) (P : Prop) : Prop := P
def pick (ns : List Int) (spot size : Int) : Int := Int.fmod (if spot < (ns.length : Int) then ns.getD spot.toNat 0 else spot * spot * 13 + spot * 7 + 5) size

theorem pick_c (w : World) (p : Program) (loose : List Str) (mean : ExcName → Option Value) (mg mb : Str → Option Value) :
   Tag PySem.Challenge.rw_yd0001_02 (∀ (news : List (Addr × Obj)) (l : Addr) (vs : List Value) (ns : List Int) (spot size : Int) (t1 t2 : Tok),
    CbClaim PySem.Challenge.rw_yd0001_02.prog w (hd.heap_39 w.params) p loose mean mg mb 28 news [(l, vs, ns)] (0 ≤ spot ∧ spot < 1000 ∧ 0 < size ∧ size < 10000) [.ref l, .int spot t1, .int size t2] (fun t => .int (pick ns spot size) t)) := by
  k_fill
  unfold Tag
  dsimp only [CbClaim, CbLists, CbRet]; intros; rename_i hret
  refine wpAny_call ?_
  k_dflt cell_enter
  k_steps
  all_goals (refine cb_retI hret ?_ (by assumption) (by assumption))
  · rw [pick, if_pos (by assumption)]
  · rw [pick, if_neg (by assumption)]

theorem pick_r {w : World} {p : Program} {loose : List Str} {mean : ExcName → Option Value} {mg mb : Str → Option Value} {news : List (Addr × Obj)} {l : Addr} {vs : List Value} {ns : List Int} {spot size : Int} {t1 t2 : Tok}
    {dp un : Nat} {gd : Option (List Code)} {cn : Str} {cs : Scope} {a : Addr} {ccd : Value} {cl : List (Str × Addr)} {outer : List Env} {A₀ : Around} {base h₀ : Heap} {L : Addr} {m : Str → Option Value} {s : Shared} {Q E : Value → Shared → Prop}
    (k1 : Below A₀ base outer h₀) (k2 : Fr h₀ L s.heap m) (k3 : (hd.heap_39 w.params).In h₀) (k4 : News h₀ L s.heap news) (k5 : Top p loose mean mg mb h₀) (k6 : cs.kind = .function)
    (k7 : base.IsList l vs.toArray) (k8 : IntsAre vs ns) (k9 : ns.length < 2 ^ 62) (k10 : 0 ≤ spot ∧ spot < 1000 ∧ 0 < size ∧ size < 10000) (k11 : dp + 1 < recursionLimit) (k12 : un + 8 < cLine)
    (k : ∀ (t : Tok) (h' : Heap) (tk' : Nat), Fr h₀ L h' m → News h₀ L h' news → Q (.int (pick ns spot size) t) { s with heap := h', toks := tk' }) :
    wpAny (model PySem.Challenge.rw_yd0001_02.prog w) (ktrTop dp un gd cn cs L a ccd cl outer) (call (.ref 28) [.ref l, .int spot t1, .int size t2]) Q E s :=
  pick_c w p loose mean mg mb news l vs ns spot size t1 t2 dp un gd cn cs a ccd cl outer A₀ base h₀ L m s Q E k1 k2 k3 k4 k5 k6 k7 k8 k9 k10 k11 k12 k

end Mine

namespace Mine
def rowOf (ns : List Int) (spot : Int) (many : Nat) (size : Int) : List Int := (rangeKs 0 many).map fun i => pick ns (spot + i) size

theorem offOf {D : Addr} : ∀ (l : List (Addr × Obj)), LCg.Off1 D l → ∀ p ∈ l, p.1 ≠ D
  | [], _, _, hp => nomatch hp
  | q :: r, h, p, hp => by
    rcases List.mem_cons.mp hp with rfl | hp
    · exact h.1
    · exact offOf r h.2 p hp

local macro_rules | `(tactic| walk_at "call ref") => `(tactic| (k_here; k_dflt (refine' pick_r ?k1 ?k2 ?k3 ?k4 ?k5 ?k6 ?k7 ?k8 ?k9 ?k10 ?k11 ?k12 ?_; (case k1 => k_asm); (case k2 => k_asm); (case k3 => k_asm); (case k4 => k_asm); (case k5 => k_asm); (case k6 => first | exact rfl | assumption); (case k7 => k_asm); (case k8 => l_ints); (case k9 => l_fit); (case k10 => (refine ⟨?_, ?_, ?_, ?_⟩ <;> omega)); (case k11 => ktr_room); (case k12 => ktr_units); intro _ _ _ F' N')))

local macro_rules | `(tactic| walk_at "my cells") => `(tactic| k_dflt (refine' code_defC ?k1 ?k2 ?k3 ?k4 ?k5 ?kA ?kF ?kK ?k6 ?k7 ?k8 ?k9 ?kB ?kD ?_ ?c2 ?c3 ?c4; (case kA => exact rfl); (case kF => exact rfl); (case kK => assumption); (case k1 => k_asm); (case k2 => k_asm); (case k3 => k_asm); (case k4 => k_asm); (case k5 => k_asm); (case k6 => k_is); (case k7 => k_is); (case k8 => ktr_room); (case k9 => exact BindsTo.of_eq rfl); (case kB => exact rfl); (case kD => decide +kernel); (case c2 => exact rfl); (case c3 => exact rfl); (case c4 => exact rfl); k_whole; intro g' L' h' tk' cells' FG' F' N' Y' B' X' T' l1; (try k_lt l1); k_cells Y'; (try simp only [List.cons_append, List.nil_append] at N'); (try dsimp only); (try k_lift B'); (try k_fold)))

theorem row_c {w : World} {p : Program} {loose : List Str} {mean : ExcName → Option Value} {mg mb : Str → Option Value} : Tag PySem.Challenge.rw_yd0001_02 (∀ {news : List (Addr × Obj)} {l : Addr} {vs : List Value} {ns : List Int} {spot size : Int} {many : Nat} {t1 t2 t3 : Tok}
    {dp un : Nat} {gd : Option (List Code)} {cn : Str} {cs : Scope} {a : Addr} {ccd : Value} {cl : List (Str × Addr)} {outer : List Env} {A₀ : Around} {base h₀ : Heap} {L : Addr} {m : Str → Option Value} {s : Shared} {Q E : Value → Shared → Prop}
    (k1 : Below A₀ base outer h₀) (k2 : Fr h₀ L s.heap m) (k3 : (hd.heap_39 w.params).In h₀) (k4 : News h₀ L s.heap news) (k5 : Top p loose mean mg mb h₀) (k6 : cs.kind = .function)
    (k7 : base.IsList l vs.toArray) (k8 : IntsAre vs ns) (k9 : ns.length < 2 ^ 62) (k10 : 0 ≤ spot ∧ spot < 500 ∧ 0 < size ∧ size < 1000 ∧ many < 20) (k11 : dp + 2 < recursionLimit) (k12 : un + 16 < cLine)
    (k : ∀ (l' : Addr) (us : List Value) (nn : Nat) (h' : Heap) (tk' : Nat), Fr h₀ L h' m → News h₀ L h' ((l', listOf us.toArray nn) :: news) → IntsAre us (rowOf ns spot many size) → (∀ p ∈ news, p.1 ≠ l') → Q (.ref l') { s with heap := h', toks := tk' }),
    wpAny (model PySem.Challenge.rw_yd0001_02.prog w) (ktrTop dp un gd cn cs L a ccd cl outer) (call (.ref 33) [.ref l, .int spot t1, .int many t3, .int size t2]) Q E s) := by
  k_fill
  unfold Tag
  intros; rename_i hret
  refine wpAny_call ?_
  walk_at "my cells"
  k_steps

  rename_i hI8 _ _ _ _ _ _ hoff kF kN _ _
  refine hret _ ys ys.length _ _ kF (cb_drop kN ?_) ?_ ?_
  · intro p hp
    rcases List.mem_cons.mp hp with rfl | hp
    · exact .head _
    · exact .tail _ (.tail _ (.tail _ (.tail _ hp)))
  · simpa [rowOf] using hI8
  · exact fun p hp e => offOf _ hoff.2.2.2 p hp e

end Mine

namespace Mine

/-- a condition: a whole number, or a truth value that counts as one. -/
inductive CondIs : Value → Int → Prop
  | int (k : Int) (t : Tok) : CondIs (.int k t) k
  | bool (b : Bool) : CondIs (.bool b) (if b = true then 1 else 0)
theorem condIs {v : Value} {c : Int} (h : CondIs v c) : (∃ t, v = .int c t) ∨ ∃ b, v = .bool b ∧ c = if b = true then 1 else 0 := by
  cases h with
  | int t => exact .inl ⟨_, rfl⟩
  | bool b => exact .inr ⟨b, rfl, rfl⟩
theorem neg_bool {prog : Program} {w : World} {A : Around} {E : Value → Shared → Prop} {s : Shared} {b : Bool} {Q : Value → Shared → Prop} (h : Q (.int (-(if b = true then 1 else 0)) s.toks) { s with toks := s.toks + 1 }) : wpAny (model prog w) A (unaryOp .USub (.bool b)) Q E s := by
  unfold unaryOp
  refine wpAny_holding ?_
  refine wpAny_bind (m := callSpecial? (.bool b) (Str.ofString "__neg__")) (wpAny_callSpecial?_slot (name := Str.ofString "__neg__") (T := "bool") rfl PySem.F.slot_bool_neg
    (wpAny_call_entry PySem.F.slot_bool_neg (T := "bool") rfl entry_int_neg ?_ (args_int_neg _)))
  cases b
  · show wpAny _ _ (do ret (← mkInt (-0))) _ _ s
    exact wpAny_ret_mkInt (wpAny_pure h)
  · show wpAny _ _ (do ret (← mkInt (-1))) _ _ s
    exact wpAny_ret_mkInt (wpAny_pure h)

/-- the names and the ledger after i turns. -/
def RS {σ : Type} (Led : σ → List (Addr × Obj)) (ps : σ → List (Str × Value)) (x : Str) (stored : List Str) (m₀ : Str → Option Value) (J : σ → Prop) (m : Str → Option Value) (nx : List (Addr × Obj)) : Prop :=
  ∃ c : σ, nx = Led c ∧ J c ∧ (∀ p ∈ ps c, m p.1 = some p.2) ∧ (∀ z, z ≠ x → (∀ p ∈ ps c, z ≠ p.1) → stored.contains z = false → m z = m₀ z)

section
variable {prog : Program} {w : World} {A : Around} {E : Value → Shared → Prop} {s : Shared} {env : Env} {h₀ : Heap} {x : Str} {body : List Stmt} {Q : Flow → Shared → Prop}
theorem rngS {σ : Type} {r : Addr} {a₀ b₀ : Int} {t₀ u₀ v₀ : Tok} {n : Nat} {m₀ : Str → Option Value} (Led : σ → List (Addr × Obj)) (ps : σ → List (Str × Value)) (stored : List Str) (J : Nat → σ → Prop) (c₀ : σ)
    (hh : A.handled = none) (hr : IsRange s.heap r a₀ b₀ 1 t₀ u₀ v₀) (hs : 0 ≤ a₀ ∧ a₀ + (n : Int) < 2 ^ 62) (hb : b₀ = a₀ + (n : Int)) (F : Fr h₀ env.locals s.heap m₀) (N : News h₀ env.locals s.heap (Led c₀)) (hj : J 0 c₀) (hk : ∀ p ∈ ps c₀, m₀ p.1 = some p.2)
    (turn : ∀ (i : Nat) (c : σ) t (u : Str → Option Value) h tk own, i < n → OwnOff own ((Led c₀).map (·.1)) → J i c →
      Fr h₀ env.locals h (fun y => if y = x then some (.int (a₀ + (i : Int)) t) else kstB (fun z => if stored.contains z then u z else m₀ z) (ps c) y) → News h₀ env.locals h (Led c ++ own) →
      wpAny (model prog w) A (execs body env) (InvPostN h₀ env.locals (RS Led ps x stored m₀ (J (i + 1))) own ((Led c₀).map (·.1)) { s with heap := h, toks := tk } Q) E { s with heap := h, toks := tk })
    (done : ∀ (c : σ) (u : Str → Option Value) h tk, J n c → Fr h₀ env.locals h (fun y => if y = x then u y else kstB (fun z => if stored.contains z then u z else m₀ z) (ps c) y) → News h₀ env.locals h (Led c) → Q .next { s with heap := h, toks := tk }) :
    wpAny (model prog w) A (pyIter (.ref r)) (fun it s₂ => LoopAtV prog w A h₀ env x body Q E it s₂) E s := by
  have hn : Builtin.Range.rangeSize a₀ b₀ 1 = (n : Int) := by rw [rangeSize_nat]; omega
  have hsmall : Builtin.Range.small a₀ b₀ 1 = true := small_one (by omega) (by omega) (by omega) (by omega)
  refine wpAny_pyIter_range hr hsmall ?_
  have W : Walks prog w A s.heap.objs.size [s.heap.objs.size] [s.heap.objs.size] n (fun i v => i < n ∧ ∃ t, v = .int (a₀ + i * 1) t)
      (fun i h => IsRangeIter h s.heap.objs.size (a₀ + (i : Nat) * 1) ((n : Int) - (i : Nat)) 1) := (Walks.range hh _ a₀ 1 n).bound
  refine loop_invN (fun i m nx => RS Led ps x stored m₀ (J i) m nx) W ?_ ?_ ?_ ?_ (by show IsRangeIter _ _ _ _ _; rw [hn]; simpa using Heap.get?_push_size _ rfl) (F.push _) (fun p hp => ⟨Heap.get?_push_of_some _ (N p hp).1, (N p hp).2⟩) ⟨c₀, rfl, hj, hk, fun _ _ _ _ => rfl⟩ ?_ ?_
  · intro hm
    exact absurd F.ns.lt ((List.mem_singleton.mp hm) ▸ Nat.lt_irrefl _)
  · intro b hb
    rw [List.mem_singleton.mp hb]
    exact next_is_new F
  · intro p hp hI
    exact absurd (Heap.lt_size (N p hp).1) ((List.mem_singleton.mp hI) ▸ Nat.lt_irrefl _)
  · intro p hp hI
    exact absurd (Heap.lt_size (N p hp).1) ((List.mem_singleton.mp hI) ▸ Nat.lt_irrefl _)
  · rintro i v m₁ nx h tk own hi ⟨_, t, rfl⟩ _ hoff ⟨c, rfl, hf', h1, h2⟩ F₁ N₁
    have e1 : a₀ + (i : Int) * 1 = a₀ + (i : Int) := by omega
    rw [e1] at F₁
    exact turn i c t m₁ h tk own hi hoff hf' (kst_fr h1 h2 F₁) N₁
  · rintro m₁ nx h tk ⟨c, rfl, hf', h1, h2⟩ F₁ N₁
    exact done c m₁ h tk hf' (kst_frOut h1 h2 F₁) N₁

/-- a turning of one list of ints that names nothing. -/
theorem rng1 {r D : Addr} {b₀ : Int} {t₀ u₀ v₀ : Tok} {n nn : Nat} {m₀ : Str → Option Value} {rest : List (Addr × Obj)} {vs : List Value} {ns : List Int} (J : Nat → List Int → Prop)
    (hh : A.handled = none) (hr : IsRange s.heap r 0 b₀ 1 t₀ u₀ v₀) (hb : b₀ = (n : Int)) (hs : n < 2 ^ 60) (F : Fr h₀ env.locals s.heap m₀) (N : News h₀ env.locals s.heap ((D, listOf vs.toArray nn) :: rest)) (hi : IntsAre vs ns) (hj : J 0 ns)
    (turn : ∀ (i : Nat) us ks kn t h tk own, i < n → OwnOff own (D :: rest.map (·.1)) → IntsAre us ks → J i ks →
      Fr h₀ env.locals h (fun y => if y = x then some (.int (i : Int) t) else m₀ y) → News h₀ env.locals h ((D, listOf us.toArray kn) :: (rest ++ own)) →
      wpAny (model prog w) A (execs body env) (InvPostN h₀ env.locals (fun m' nx => ∃ us ks kn, nx = (D, listOf us.toArray kn) :: rest ∧ IntsAre us ks ∧ J (i + 1) ks ∧ ∀ z, z ≠ x → m' z = m₀ z) own (D :: rest.map (·.1)) { s with heap := h, toks := tk } Q) E { s with heap := h, toks := tk })
    (done : ∀ us ks kn (u : Str → Option Value) h tk, IntsAre us ks → J n ks → Fr h₀ env.locals h (fun y => if y = x then u y else m₀ y) → News h₀ env.locals h ((D, listOf us.toArray kn) :: rest) → Q .next { s with heap := h, toks := tk }) :
    wpAny (model prog w) A (pyIter (.ref r)) (fun it s₂ => LoopAtV prog w A h₀ env x body Q E it s₂) E s := by
  refine rngS (σ := List Value × List Int × Nat) (fun c => (D, listOf c.1.toArray c.2.2) :: rest) (fun _ => []) [] (fun i c => IntsAre c.1 c.2.1 ∧ J i c.2.1) (vs, ns, nn) hh hr (n := n) ⟨by decide, by omega⟩ (by omega) F N ⟨hi, hj⟩ (fun _ h => nomatch h) ?_ ?_
  · rintro i ⟨us, ks, kn⟩ t u h tk own hlt hoff ⟨hi', hJ⟩ F' N'
    have e : (fun y => if y = x then some (Value.int (0 + (i : Int)) t) else kstB (fun z => if ([] : List Str).contains z then u z else m₀ z) [] y) = fun y => if y = x then some (.int (i : Int) t) else m₀ y := by
      funext y; simp [kstB]
    rw [e] at F'
    refine wpAny_mono (turn i us ks kn t h tk own hlt hoff hi' hJ F' N') (fun f s₂ p => ?_) fun _ _ x => x
    have up : InvEndN h₀ env.locals (fun m' nx => ∃ us ks kn, nx = (D, listOf us.toArray kn) :: rest ∧ IntsAre us ks ∧ J (i + 1) ks ∧ ∀ z, z ≠ x → m' z = m₀ z) own (D :: rest.map (·.1)) { s with heap := h, toks := tk } s₂ →
        InvEndN h₀ env.locals (RS (fun c : List Value × List Int × Nat => (D, listOf c.1.toArray c.2.2) :: rest) (fun _ => []) x [] m₀ (fun c => IntsAre c.1 c.2.1 ∧ J (i + 1) c.2.1)) own (D :: rest.map (·.1)) { s with heap := h, toks := tk } s₂ := by
      rintro ⟨h', tk', m', news', nx', e', F', N', hn', ho', ha, us, ks, kn, rfl, h1, h2, h3⟩
      exact ⟨h', tk', m', news', _, e', F', N', hn', ho', ha, (us, ks, kn), rfl, ⟨h1, h2⟩, fun _ h => (nomatch h), fun z hz _ _ => h3 z hz⟩
    cases f with
    | ret v => exact p
    | brk => exact p
    | next => exact up p
    | cont => exact up p
  · rintro ⟨us, ks, kn⟩ u h tk ⟨hi', hJ⟩ F' N'
    have e : (fun y => if y = x then u y else kstB (fun z => if ([] : List Str).contains z then u z else m₀ z) [] y) = fun y => if y = x then u y else m₀ y := by
      funext y; simp [kstB]
    rw [e] at F'
    exact done us ks kn u h tk hi' hJ F' N'
theorem rng1_end {J : List Int → Prop} {L D : Addr} {m₀ : Str → Option Value} {v : Option Value} {us : List Value} {ks : List Int} {kn tk : Nat} {rest own : List (Addr × Obj)} {h' : Heap} {s₁ : Shared}
    (F : Fr h₀ L h' (fun y => if y = x then v else m₀ y)) (N : News h₀ L h' ((D, listOf us.toArray kn) :: (rest ++ own))) (hi : IntsAre us ks) (hJ : J ks) :
    InvEndN h₀ L (fun m' nx => ∃ us ks kn, nx = (D, listOf us.toArray kn) :: rest ∧ IntsAre us ks ∧ J ks ∧ ∀ z, z ≠ x → m' z = m₀ z) own (D :: rest.map (·.1)) s₁ { s₁ with heap := h', toks := tk } := by
  refine InvEndN.intro F N ⟨us, ks, kn, rfl, hi, hJ, fun z hz => if_neg hz⟩ rfl (fun p hp => ?_) (fun p hp => .tail _ (List.mem_append_right _ hp))
  rcases List.mem_cons.mp hp with rfl | hp
  · exact .head _
  · exact .tail _ (List.mem_append_left _ hp)
end
end Mine

namespace Mine

local macro_rules | `(tactic| walk_at "my steps") => `(tactic| repeat' (first | (k_unfold; (try dsimp only)) | ((fail_if_success (with_reducible show wpAny _ _ (pyIter (Value.ref _)) _ _ _)); first | (k_end; wrow_close) | walk1 | (dsimp only; walk1) | (leave1; walk_say "STEP leave1"; try dsimp only)) | fail "no step"))
local macro_rules | `(tactic| walk_at "unaryOp USub") => `(tactic| ((with_reducible refine neg_bool ?_); try dsimp only))

theorem cw_in (c : Int) : 0 ≤ Int.fmod (-c) 256 ∧ Int.fmod (-c) 256 < 256 := by
  rw [fmod_256]; omega

theorem sel_c {w : World} {p : Program} {loose : List Str} {mean : ExcName → Option Value} {mg mb : Str → Option Value} : Tag PySem.Challenge.rw_yd0001_02 (∀ {news : List (Addr × Obj)} {xs ys : List Int} {cv : Value} {c : Int} {t1 t2 : Tok}
    {dp un : Nat} {gd : Option (List Code)} {cn : Str} {cs : Scope} {a : Addr} {ccd : Value} {cl : List (Str × Addr)} {outer : List Env} {A₀ : Around} {base h₀ : Heap} {L : Addr} {m : Str → Option Value} {s : Shared} {Q E : Value → Shared → Prop}
    (k1 : Below A₀ base outer h₀) (k2 : Fr h₀ L s.heap m) (k3 : (hd.heap_39 w.params).In h₀) (k4 : News h₀ L s.heap news) (k5 : Top p loose mean mg mb h₀) (k6 : cs.kind = .function)
    (k7 : KBa.In xs) (k8 : KBa.In ys) (k9 : xs.length < 20) (k9' : ys.length < 20) (kc : CondIs cv c) (k11 : dp + 1 < recursionLimit) (k12 : un + 16 < cLine)
    (k : ys.length = xs.length → ∀ (t : Tok) (h' : Heap) (tk' : Nat), Fr h₀ L h' m → News h₀ L h' news → Q (.bytes (byteArr (selRow (Int.fmod (-c) 256) xs ys)) t) { s with heap := h', toks := tk' })
    (kx : (xs.length : Int) ≠ (ys.length : Int) → ∀ (g' : Heap) (e : Addr) (h' : Heap) (tk' : Nat), Fr h₀ L g' m → RaisedN base (envX cn cs L a ccd cl :: outer) e (.type "AssertionError") news h' → g'.UpToSlots h' → E (.ref e) { s with heap := h', toks := tk' }),
    wpAny (model PySem.Challenge.rw_yd0001_02.prog w) (ktrTop dp un gd cn cs L a ccd cl outer) (call (.ref 21) [.bytes (byteArr xs) t1, .bytes (byteArr ys) t2, cv]) Q E s) := by
  k_fill
  unfold Tag
  intro news xs ys cv c t1 t2 dp un gd cn cs a ccd cl outer A₀ base h₀ L m s Q E k1 k2 k3 k4 k5 k6 hX hY hn hnY hc k11 k12 hret kx
  have ex := KBa.ints_make hX
  have ey := KBa.ints_make hY
  have hMk9 : KstMark := kstMark
  rcases condIs hc with ⟨tc, rfl⟩ | ⟨b, rfl, rfl⟩
  · refine wpAny_call ?_
    k_dflt cell_enter
    walk_at "my steps"
    · rename_i hR F1 N1 _
      rename IntsAre _ _ => hi
      refine rng1 (SelJ (Int.fmod (-c) 256) xs ys) rfl hR rfl (by omega) F1 N1 hi ?_ ?_ ?_
      · apply SelJ.zero; simp
      · intro i us ks kn t h tk own hlt hoff hi' hJ F2 N2
        have hJ1 := hJ.1
        walk_at "my steps"
        rename_i F3 N3 hi3 _ _
        exact rng1_end F3 N3 hi3 (hJ.succ hlt rfl)
      · intro us ks kn u h tk hi' hJ F2 N2
        have hlen : ys.length = xs.length := by omega
        have e := hJ.done hlen
        subst e
        have hIn : KBa.In _ := selRow_in hlen (cw_in c) hX hY
        have hL := selRow_length (Int.fmod (-c) 256) hlen
        walk_at "my steps"
        exact hret hlen _ _ _ (by assumption) (cb_drop (by assumption) fun p hp => .tail _ (.tail _ hp))
    · rename_i hR hU
      exact kx (by assumption) _ _ _ _ (by assumption) hR hU
  · refine wpAny_call ?_
    k_dflt cell_enter
    walk_at "my steps"
    · rename_i hR F1 N1 _
      rename IntsAre _ _ => hi
      refine rng1 (SelJ (Int.fmod (-if b = true then 1 else 0) 256) xs ys) rfl hR rfl (by omega) F1 N1 hi ?_ ?_ ?_
      · apply SelJ.zero; simp
      · intro i us ks kn t h tk own hlt hoff hi' hJ F2 N2
        have hJ1 := hJ.1
        walk_at "my steps"
        rename_i F3 N3 hi3 _ _
        exact rng1_end F3 N3 hi3 (hJ.succ hlt rfl)
      · intro us ks kn u h tk hi' hJ F2 N2
        have hlen : ys.length = xs.length := by omega
        have e := hJ.done hlen
        subst e
        have hIn : KBa.In _ := selRow_in hlen (cw_in (if b = true then 1 else 0)) hX hY
        have hL := selRow_length (Int.fmod (-if b = true then 1 else 0) 256) hlen
        walk_at "my steps"
        exact hret hlen _ _ _ (by assumption) (cb_drop (by assumption) fun p hp => .tail _ (.tail _ hp))
    · rename_i hR hU
      exact kx (by assumption) _ _ _ _ (by assumption) hR hU
end Mine

namespace Mine

theorem untag {o : OpenLaw} {P : Prop} (h : Tag o P) : P := h
theorem pick_in {ns : List Int} {spot size : Int} (h : 0 < size) : 0 ≤ pick ns spot size ∧ pick ns spot size < size :=
  ⟨Int.fmod_nonneg_of_pos _ h, Int.fmod_lt_of_pos _ h⟩
theorem pick_nat (ns : List Int) (spot size : Int) (h : 0 < size) : ∃ n : Nat, pick ns spot size = (n : Int) ∧ (n : Int) < size := by
  have h1 := pick_in (ns := ns) (spot := spot) h
  exact ⟨(pick ns spot size).toNat, by omega, by omega⟩
theorem rowOf_length (ns : List Int) (spot : Int) (many : Nat) (size : Int) : (rowOf ns spot many size).length = many := by
  simp [rowOf, rangeKs_length]
theorem rowOf_in (ns : List Int) (spot : Int) (many : Nat) : KBa.In (rowOf ns spot many 256) := by
  intro n hn
  obtain ⟨i, _, rfl⟩ := List.mem_map.mp hn
  exact pick_in (by decide)

theorem pick_v {w : World} {p : Program} {loose : List Str} {mean : ExcName → Option Value} {mg mb : Str → Option Value} {news : List (Addr × Obj)} {l : Addr} {vs : List Value} {ns : List Int} {spot size v : Int} {t1 t2 : Tok}
    {dp un : Nat} {gd : Option (List Code)} {cn : Str} {cs : Scope} {a : Addr} {ccd : Value} {cl : List (Str × Addr)} {outer : List Env} {A₀ : Around} {base h₀ : Heap} {L : Addr} {m : Str → Option Value} {s : Shared} {Q E : Value → Shared → Prop}
    (k1 : Below A₀ base outer h₀) (k2 : Fr h₀ L s.heap m) (k3 : (hd.heap_39 w.params).In h₀) (k4 : News h₀ L s.heap news) (k5 : Top p loose mean mg mb h₀) (k6 : cs.kind = .function)
    (k7 : base.IsList l vs.toArray) (k8 : IntsAre vs ns) (k9 : ns.length < 2 ^ 62) (k10 : 0 ≤ spot ∧ spot < 1000 ∧ 0 < size ∧ size < 10000) (k11 : dp + 1 < recursionLimit) (k12 : un + 8 < cLine) (k13 : pick ns spot size = v)
    (k : ∀ (t : Tok) (h' : Heap) (tk' : Nat), Fr h₀ L h' m → News h₀ L h' news → Q (.int v t) { s with heap := h', toks := tk' }) :
    wpAny (model PySem.Challenge.rw_yd0001_02.prog w) (ktrTop dp un gd cn cs L a ccd cl outer) (call (.ref 28) [.ref l, .int spot t1, .int size t2]) Q E s := by
  refine pick_r k1 k2 k3 k4 k5 k6 k7 k8 k9 k10 k11 k12 fun t h' tk' F N => ?_
  rw [k13]
  exact k t h' tk' F N

theorem row_r {w : World} {p : Program} {loose : List Str} {mean : ExcName → Option Value} {mg mb : Str → Option Value} {news : List (Addr × Obj)} {l : Addr} {vs : List Value} {ns : List Int} {spot : Int} {many : Nat} {t1 t2 t3 : Tok}
    {dp un : Nat} {gd : Option (List Code)} {cn : Str} {cs : Scope} {a : Addr} {ccd : Value} {cl : List (Str × Addr)} {outer : List Env} {A₀ : Around} {base h₀ : Heap} {L : Addr} {m : Str → Option Value} {s : Shared} {Q E : Value → Shared → Prop}
    (k1 : Below A₀ base outer h₀) (k2 : Fr h₀ L s.heap m) (k3 : (hd.heap_39 w.params).In h₀) (k4 : News h₀ L s.heap news) (k5 : Top p loose mean mg mb h₀) (k6 : cs.kind = .function)
    (k7 : base.IsList l vs.toArray) (k8 : IntsAre vs ns) (k9 : ns.length < 2 ^ 62) (k10 : 0 ≤ spot ∧ spot < 500 ∧ many < 20) (k11 : dp + 2 < recursionLimit) (k12 : un + 16 < cLine)
    (k : ∀ (row : List Int) (l' : Addr) (us : List Value) (nn : Nat) (h' : Heap) (tk' : Nat), Fr h₀ L h' m → News h₀ L h' ((l', listOf us.toArray nn) :: news) → IntsAre us row → KBa.In row → row.length = many → (∀ p ∈ news, @Ne Nat p.1 l') → Q (.ref l') { s with heap := h', toks := tk' }) :
    wpAny (model PySem.Challenge.rw_yd0001_02.prog w) (ktrTop dp un gd cn cs L a ccd cl outer) (call (.ref 33) [.ref l, .int spot t1, .int (many : Int) t3, .int 256 t2]) Q E s := by
  refine untag (o := PySem.Challenge.rw_yd0001_02) row_c k1 k2 k3 k4 k5 k6 k7 k8 k9 ⟨k10.1, k10.2.1, by decide, by decide, k10.2.2⟩ k11 k12 fun l' us nn h' tk' F N I o => ?_
  exact k _ l' us nn h' tk' F N I (rowOf_in _ _ _) (rowOf_length _ _ _ _) o


theorem sel_r {w : World} {p : Program} {loose : List Str} {mean : ExcName → Option Value} {mg mb : Str → Option Value} {news : List (Addr × Obj)} {xs ys : List Int} {cv : Value} {c : Int} {t1 t2 : Tok}
    {dp un : Nat} {gd : Option (List Code)} {cn : Str} {cs : Scope} {a : Addr} {ccd : Value} {cl : List (Str × Addr)} {outer : List Env} {A₀ : Around} {base h₀ : Heap} {L : Addr} {m : Str → Option Value} {s : Shared} {Q E : Value → Shared → Prop}
    (k1 : Below A₀ base outer h₀) (k2 : Fr h₀ L s.heap m) (k3 : (hd.heap_39 w.params).In h₀) (k4 : News h₀ L s.heap news) (k5 : Top p loose mean mg mb h₀) (k6 : cs.kind = .function)
    (k7 : KBa.In xs) (k8 : KBa.In ys) (k9 : xs.length < 20) (k9' : ys.length < 20) (kc : CondIs cv c) (k11 : dp + 1 < recursionLimit) (k12 : un + 16 < cLine)
    (k : ys.length = xs.length → ∀ (t : Tok) (h' : Heap) (tk' : Nat), Fr h₀ L h' m → News h₀ L h' news → Q (.bytes (byteArr (selRow (Int.fmod (-c) 256) xs ys)) t) { s with heap := h', toks := tk' })
    (kx : (xs.length : Int) ≠ (ys.length : Int) → ∀ (g' : Heap) (e : Addr) (h' : Heap) (tk' : Nat), Fr h₀ L g' m → RaisedN base (envX cn cs L a ccd cl :: outer) e (.type "AssertionError") news h' → g'.UpToSlots h' → E (.ref e) { s with heap := h', toks := tk' }) :
    wpAny (model PySem.Challenge.rw_yd0001_02.prog w) (ktrTop dp un gd cn cs L a ccd cl outer) (call (.ref 21) [.bytes (byteArr xs) t1, .bytes (byteArr ys) t2, cv]) Q E s :=
  untag (o := PySem.Challenge.rw_yd0001_02) sel_c k1 k2 k3 k4 k5 k6 k7 k8 k9 k9' kc k11 k12 k kx

inductive All2 {α β : Type} (R : α → β → Prop) : List α → List β → Prop
  | nil : All2 R [] []
  | cons {a b as bs} : R a b → All2 R as bs → All2 R (a :: as) (b :: bs)
theorem All2.length {α β : Type} {R : α → β → Prop} : ∀ {as : List α} {bs : List β}, All2 R as bs → as.length = bs.length
  | _, _, .nil => rfl
  | _, _, .cons _ h => by simp [h.length]
theorem All2.push {α β : Type} {R : α → β → Prop} {a : α} {b : β} (r : R a b) : ∀ {as : List α} {bs : List β}, All2 R as bs → All2 R (as ++ [a]) (bs ++ [b])
  | _, _, .nil => .cons r .nil
  | _, _, .cons h t => .cons h (t.push r)
theorem All2.get {α β : Type} {R : α → β → Prop} (d : β) : ∀ {as : List α} {bs : List β}, All2 R as bs → ∀ i, i < bs.length → ∃ a, as[i]? = some a ∧ R a (bs.getD i d)
  | _, _, .nil, _, h => absurd h (Nat.not_lt_zero _)
  | _, _, .cons h _, 0, _ => ⟨_, rfl, h⟩
  | _, _, .cons _ t, i + 1, h => t.get d i (Nat.lt_of_succ_lt_succ h)
theorem All2.set {α β : Type} {R : α → β → Prop} {a : α} {b : β} (r : R a b) : ∀ {as : List α} {bs : List β}, All2 R as bs → ∀ i, All2 R (as.set i a) (bs.set i b)
  | _, _, .nil, _ => .nil
  | _, _, .cons _ t, 0 => .cons r t
  | _, _, .cons h t, i + 1 => .cons h (t.set r i)

/-- the values are the rows' bytes. -/
def BytesAre (vs : List Value) (rs : List (List Int)) : Prop := All2 (fun v r => ∃ t, v = Value.bytes (byteArr r) t) vs rs
def CondsAre (vs : List Value) (cs : List Int) : Prop := All2 CondIs vs cs

theorem ints_push {x : Int} {u : Tok} : ∀ {vs : List Value} {ns : List Int}, IntsAre vs ns → IntsAre (vs ++ [.int x u]) (ns ++ [x])
  | _, _, .nil => .cons x u .nil
  | _, _, .cons i t h => .cons i t (ints_push h)
section
variable {prog : Program} {w : World} {A : Around} {E : Value → Shared → Prop} {s : Shared} {env : Env} {h₀ : Heap} {x : Str} {body : List Stmt} {Q : Flow → Shared → Prop}
structure St where
  mv : List Value
  ms : List Int
  mk' : Nat
  cv : List Value
  cs : List Int
  ck : Nat
  rv : List Value
  rs : List (List Int)
  rk : Nat
  sp : Int
  spt : Tok
def bldLed (lm lc lr : Addr) (rest : List (Addr × Obj)) (c : St) : List (Addr × Obj) := (lm, listOf c.mv.toArray c.mk') :: (lc, listOf c.cv.toArray c.ck) :: (lr, listOf c.rv.toArray c.rk) :: rest
def bldPs (c : St) : List (Str × Value) := [("spot", .int c.sp c.spt)]
def bldJ (J : Nat → List Int → List Int → List (List Int) → Int → Prop) (i : Nat) (c : St) : Prop := IntsAre c.mv c.ms ∧ CondsAre c.cv c.cs ∧ BytesAre c.rv c.rs ∧ J i c.ms c.cs c.rs c.sp
theorem bld {r lm lc lr : Addr} {b₀ : Int} {t₀ u₀ v₀ : Tok} {n mk' ck rk : Nat} {m₀ : Str → Option Value} {rest : List (Addr × Obj)} {mv cv rv : List Value} {ms cs : List Int} {rs : List (List Int)} {sp : Int} {spt : Tok}
    (J : Nat → List Int → List Int → List (List Int) → Int → Prop)
    (hh : A.handled = none) (hr : IsRange s.heap r 0 b₀ 1 t₀ u₀ v₀) (hb : b₀ = (n : Int)) (hs : n < 2 ^ 60) (F : Fr h₀ env.locals s.heap m₀)
    (N : News h₀ env.locals s.heap ((lm, listOf mv.toArray mk') :: (lc, listOf cv.toArray ck) :: (lr, listOf rv.toArray rk) :: rest))
    (h1 : IntsAre mv ms) (h2 : CondsAre cv cs) (h3 : BytesAre rv rs) (hsp : m₀ "spot" = some (.int sp spt)) (hj : J 0 ms cs rs sp)
    (turn : ∀ (i : Nat) mv ms mk' cv cs ck rv rs rk sp spt t (u : Str → Option Value) h tk own, i < n → OwnOff own (lm :: lc :: lr :: rest.map (·.1)) → IntsAre mv ms → CondsAre cv cs → BytesAre rv rs → J i ms cs rs sp →
      Fr h₀ env.locals h (fun y => if y = x then some (.int (i : Int) t) else if y = "spot" then some (.int sp spt) else if (["kind", "cond"] : List Str).contains y then u y else m₀ y) →
      News h₀ env.locals h ((lm, listOf mv.toArray mk') :: (lc, listOf cv.toArray ck) :: (lr, listOf rv.toArray rk) :: (rest ++ own)) →
      wpAny (model prog w) A (execs body env) (InvPostN h₀ env.locals (RS (bldLed lm lc lr rest) bldPs x ["kind", "cond"] m₀ (bldJ J (i + 1))) own (lm :: lc :: lr :: rest.map (·.1)) { s with heap := h, toks := tk } Q) E { s with heap := h, toks := tk })
    (done : ∀ mv ms mk' cv cs ck rv rs rk sp spt (u : Str → Option Value) h tk, IntsAre mv ms → CondsAre cv cs → BytesAre rv rs → J n ms cs rs sp →
      Fr h₀ env.locals h (fun y => if y = x then u y else if y = "spot" then some (.int sp spt) else if (["kind", "cond"] : List Str).contains y then u y else m₀ y) →
      News h₀ env.locals h ((lm, listOf mv.toArray mk') :: (lc, listOf cv.toArray ck) :: (lr, listOf rv.toArray rk) :: rest) → Q .next { s with heap := h, toks := tk }) :
    wpAny (model prog w) A (pyIter (.ref r)) (fun it s₂ => LoopAtV prog w A h₀ env x body Q E it s₂) E s := by
  refine rngS (bldLed lm lc lr rest) bldPs ["kind", "cond"] (bldJ J) ⟨mv, ms, mk', cv, cs, ck, rv, rs, rk, sp, spt⟩ hh hr (n := n) ⟨by decide, by omega⟩ (by omega) F N ⟨h1, h2, h3, hj⟩ (fun p hp => by rw [List.mem_singleton.mp hp]; exact hsp) ?_ ?_
  · rintro i ⟨mv, ms, mk', cv, cs, ck, rv, rs, rk, sp, spt⟩ t u h tk own hlt hoff ⟨g1, g2, g3, gj⟩ F' N'
    rw [Int.zero_add] at F'
    exact turn i mv ms mk' cv cs ck rv rs rk sp spt t u h tk own hlt hoff g1 g2 g3 gj F' N'
  · rintro ⟨mv, ms, mk', cv, cs, ck, rv, rs, rk, sp, spt⟩ u h tk ⟨g1, g2, g3, gj⟩ F' N'
    exact done mv ms mk' cv cs ck rv rs rk sp spt u h tk g1 g2 g3 gj F' N'
theorem rs_end {σ : Type} {Led : σ → List (Addr × Obj)} {ps : σ → List (Str × Value)} {stored : List Str} {m₀ m' : Str → Option Value} {J : σ → Prop} {L : Addr} {news' own : List (Addr × Obj)} {adr : List Addr} {h' : Heap} {tk : Nat} {s₁ : Shared} (c : σ)
    (F : Fr h₀ L h' m') (N : News h₀ L h' news') (hJ : J c) (hk : ∀ p ∈ ps c, m' p.1 = some p.2) (hr : ∀ z, z ≠ x → (∀ p ∈ ps c, z ≠ p.1) → stored.contains z = false → m' z = m₀ z) (ha : (Led c).map (·.1) = adr) (hn : ∀ p ∈ Led c, p ∈ news') (ho : ∀ p ∈ own, p ∈ news') :
    InvEndN h₀ L (RS Led ps x stored m₀ J) own adr s₁ { s₁ with heap := h', toks := tk } :=
  InvEndN.intro F N ⟨c, rfl, hJ, hk, hr⟩ ha hn ho
theorem bld_end {L lm lc lr : Addr} {m₀ m' : Str → Option Value} {news' rest own : List (Addr × Obj)} {mv cv rv : List Value} {ms cs : List Int} {rs : List (List Int)} {mk cnd sp : Int} {tm spt : Tok} {xc : Value} {a b c tk : Nat} {h' : Heap} {s₁ : Shared}
    {i : Nat} {J' : Nat → List Int → List Int → List (List Int) → Int → Prop}
    (F : Fr h₀ L h' m') (N : News h₀ L h' news') (h1 : (lm, listOf (mv ++ [Value.int mk tm]).toArray a) ∈ news') (h2 : (lc, listOf (cv ++ [xc]).toArray b) ∈ news') (h3 : (lr, listOf rv.toArray c) ∈ news') (h4 : ∀ p ∈ rest, p ∈ news') (h5 : ∀ p ∈ own, p ∈ news')
    (i1 : IntsAre mv ms) (i2 : CondsAre cv cs) (i3 : CondIs xc cnd) (i4 : BytesAre rv rs) (hsp : m' "spot" = some (.int sp spt))
    (hr : ∀ z, z ≠ x → z ≠ "spot" → z ≠ "kind" → z ≠ "cond" → m' z = m₀ z) (hJ : J' i (ms ++ [mk]) (cs ++ [cnd]) rs sp) :
    InvEndN h₀ L (RS (bldLed lm lc lr rest) bldPs x ["kind", "cond"] m₀ (bldJ J' i)) own (lm :: lc :: lr :: rest.map (·.1)) s₁ { s₁ with heap := h', toks := tk } := by
  refine InvEndN.intro F N ⟨⟨mv ++ [Value.int mk tm], ms ++ [mk], a, cv ++ [xc], cs ++ [cnd], b, rv, rs, c, sp, spt⟩, rfl, ⟨ints_push i1, All2.push i3 i2, i4, hJ⟩, ?_, ?_⟩ rfl ?_ h5
  · intro p hp; rw [List.mem_singleton.mp hp]; exact hsp
  · intro z g1 g2 g3
    simp only [List.contains_cons, List.contains_nil, Bool.or_false, Bool.or_eq_false_iff, beq_eq_false_iff_ne] at g3
    exact hr z g1 (g2 _ (.head _)) g3.1 g3.2
  · intro p hp
    simp only [bldLed, List.mem_cons] at hp
    rcases hp with rfl | rfl | rfl | hp
    · exact h1
    · exact h2
    · exact h3
    exact h4 p hp
end
theorem byteArr_app (xs ys : List Int) : byteArr xs ++ byteArr ys = byteArr (xs ++ ys) := by simp [byteArr]
section
variable {prog : Program} {w : World} {A : Around} {E : Value → Shared → Prop} {s : Shared} {h₀ : Heap} {L D : Addr} {m : Str → Option Value} {news news' : List (Addr × Obj)} {vs : List Value} {n : Nat} {k : Int} {t u : Tok}
theorem append_L {x : Value} {Q : Value → Shared → Prop} (F : Fr h₀ L s.heap m) (N : News h₀ L s.heap news) (U : Upd D (listOf vs.toArray n) (listOf (vs ++ [x]).toArray (n + 1)) news news') (hsz : vs.length < 1000)
    (h : ∀ h', Fr h₀ L h' m → News h₀ L h' news' → Q .none { s with heap := h' }) : wpAny (model prog w) A (call (.builtin "list.append") [.ref D, x]) Q E s := by
  rw [← List.push_toArray] at U
  exact append_K F N U h (by rw [List.size_toArray, sizeLine_eq]; omega)
theorem set_L {x : Value} {Q : Unit → Shared → Prop} (F : Fr h₀ L s.heap m) (N : News h₀ L s.heap news) (U : Upd D (listOf vs.toArray n) (listOf (vs.set k.toNat x).toArray n) news news') (h0 : 0 ≤ k) (h1 : k < (vs.length : Int)) (hfit : k < 1000)
    (h : ∀ h', Fr h₀ L h' m → News h₀ L h' news' → Q () { s with heap := h' }) : wpAny (model prog w) A (setItem (.ref D) (.int k t) x) Q E s := by
  obtain ⟨pre, post, rfl, rfl, a, b⟩ := U.split
  have z := N (D, listOf vs.toArray n) (List.mem_append.mpr (.inr (.head _)))
  have hs : vs.toArray.size = vs.length := List.size_toArray
  refine ki_setAt z.1 h0 (by omega) (by omega) (h _ (F.change (Heap.SameBut.update ..) z.2.1 z.2.2) (ki_turn _ N a b ?_ ?_))
  · show vs.toArray.setIfInBounds k.toNat x = (vs.set k.toNat x).toArray
    apply Array.toList_inj.mp
    simp
  · simp
theorem sub_all2 {β : Type} {R : Value → β → Prop} {rs : List β} (d : β) {value slice : PySem.Expr} {Q : Value → Shared → Prop} (N : News h₀ L s.heap news) (hm : (D, listOf vs.toArray n) ∈ news) (hi : All2 R vs rs) (h0 : 0 ≤ k) (h1 : k < (rs.length : Int)) (hfit : k < 1000)
    (h : ∀ v, R v (rs.getD k.toNat d) → Q v s)
    (hs : subscripted slice false (.ref D) (.int k u) = operate [.ref D, .int k u] (getItem (.ref D) (.int k u)) := by with_unfolding_all rfl) :
    wpAny (model prog w) A (subscriptTail value slice (.ref D) (.int k u)) Q E s := by
  obtain ⟨v, hx, r⟩ := All2.get d hi k.toNat (by omega)
  have hl := PySem.IsL.isList (n := n) (N _ hm).1
  exact tail_any hl.typeIs slot_list_getitem.lookup (wpAny_getItem_list hl h0 (by omega) (by simpa using hx) (h v r)) hs
theorem sub_bytes {rs : List (List Int)} {value slice : PySem.Expr} {Q : Value → Shared → Prop} (N : News h₀ L s.heap news) (hm : (D, listOf vs.toArray n) ∈ news) (hi : BytesAre vs rs) (h0 : 0 ≤ k) (h1 : k < (rs.length : Int)) (hfit : k < 1000)
    (h : ∀ t, Q (.bytes (byteArr (rs.getD k.toNat [])) t) s)
    (hs : subscripted slice false (.ref D) (.int k u) = operate [.ref D, .int k u] (getItem (.ref D) (.int k u)) := by with_unfolding_all rfl) :
    wpAny (model prog w) A (subscriptTail value slice (.ref D) (.int k u)) Q E s :=
  sub_all2 [] N hm hi h0 h1 hfit (fun v ⟨t, e⟩ => e ▸ h t) hs
theorem sub_conds {cs : List Int} {value slice : PySem.Expr} {Q : Value → Shared → Prop} (N : News h₀ L s.heap news) (hm : (D, listOf vs.toArray n) ∈ news) (hi : CondsAre vs cs) (h0 : 0 ≤ k) (h1 : k < (cs.length : Int)) (hfit : k < 1000)
    (h : ∀ v, CondIs v (cs.getD k.toNat 0) → Q v s)
    (hs : subscripted slice false (.ref D) (.int k u) = operate [.ref D, .int k u] (getItem (.ref D) (.int k u)) := by with_unfolding_all rfl) :
    wpAny (model prog w) A (subscriptTail value slice (.ref D) (.int k u)) Q E s :=
  sub_all2 0 N hm hi h0 h1 hfit h hs
theorem sub_last {x : Value} {value slice : PySem.Expr} {Q : Value → Shared → Prop} (N : News h₀ L s.heap news) (hm : (D, listOf (vs ++ [x]).toArray n) ∈ news) (hk : k = (vs.length : Int)) (hfit : k < 1000)
    (h : Q x s)
    (hs : subscripted slice false (.ref D) (.int k u) = operate [.ref D, .int k u] (getItem (.ref D) (.int k u)) := by with_unfolding_all rfl) :
    wpAny (model prog w) A (subscriptTail value slice (.ref D) (.int k u)) Q E s := by
  have hl := PySem.IsL.isList (n := n) (N _ hm).1
  subst hk
  exact tail_any hl.typeIs slot_list_getitem.lookup (wpAny_getItem_list hl (by omega) (by omega) (by simp) h) hs
theorem in_255 : KBa.In [255] := fun n hn => by rw [List.mem_singleton.mp hn]; decide
theorem add_B {xs ys : List Int} {Q : Value → Shared → Prop} (hsz : xs.length + ys.length < 1000) (hx : KBa.In xs) (hy : KBa.In ys) (h : ∀ t' k, Q (.bytes (byteArr (xs ++ ys)) t') { s with toks := k }) : wpAny (model prog w) A (binaryOp .Add (.bytes (byteArr xs) t) (.bytes (byteArr ys) u)) Q E s :=
  KBa.add_K (KBa.ints_make hx) (KBa.ints_make hy) (by omega) fun t' k _ => by rw [byteArr_app]; exact h t' k
end
end Mine

namespace Mine

def RT {σ : Type} (Led : σ → List (Addr × Obj)) (ps : σ → List (Str × Value)) (stored : List Str) (m₀ : Str → Option Value) (J : σ → Prop) (m : Str → Option Value) (nx : List (Addr × Obj)) : Prop :=
  ∃ c : σ, nx = Led c ∧ J c ∧ (∀ p ∈ ps c, m p.1 = some p.2) ∧ (∀ z, (∀ p ∈ ps c, z ≠ p.1) → stored.contains z = false → m z = m₀ z)
theorem rt_map {ps : List (Str × Value)} {stored : List Str} {m₀ m₁ : Str → Option Value} (h1 : ∀ p ∈ ps, m₁ p.1 = some p.2) (h2 : ∀ z, (∀ p ∈ ps, z ≠ p.1) → stored.contains z = false → m₁ z = m₀ z) :
    kstB (fun z => if stored.contains z then m₁ z else m₀ z) ps = m₁ := by
  funext z
  refine kstB_eq h1 fun hn => ?_
  show (if stored.contains z = true then m₁ z else m₀ z) = m₁ z
  cases h3 : stored.contains z with
  | true => simp
  | false => simp only [Bool.false_eq_true, if_false]; exact (h2 z hn h3).symm
section
variable {prog : Program} {w : World} {A : Around} {E : Value → Shared → Prop} {s : Shared} {env : Env} {h₀ : Heap} {target : Expr} {body : List Stmt} {Q : Flow → Shared → Prop}
theorem turnsL {σ : Type} {I l : Addr} {lo : Obj} {P : Nat → Value → Prop} {St : Nat → Heap → Prop} {xs : List Value} {m₀ : Str → Option Value} {adr : List Addr} (Led : σ → List (Addr × Obj)) (ps : σ → List (Str × Value)) (stored : List Str) (J : Nat → σ → Prop) (c₀ : σ)
    (W : Walks prog w A I [I, l] [I] xs.length P St)
    (hgo : ∀ i v (s : Shared) (Q : Unit → Shared → Prop) (E : Value → Shared → Prop), St i s.heap → Q () s → wpAny (model prog w) A (letOwnedTupleGo target (.ref I) v) Q E s)
    (hP : ∀ i v, i < xs.length → P i v → xs[i]? = some v) (hLI : env.locals ≠ I) (hLl : env.locals ≠ l) (hI0 : h₀.get? I = none) (hst : St 0 s.heap) (hob : ∀ i h, St i h → ∃ o, h.get? I = some o)
    (F : Fr h₀ env.locals s.heap m₀) (N : News h₀ env.locals s.heap (Led c₀)) (ha : ∀ c, (Led c).map (·.1) = adr) (hm : ∀ c, (l, lo) ∈ Led c) (hoff : ∀ b ∈ adr, b ≠ I) (hj : J 0 c₀) (hk : ∀ p ∈ ps c₀, m₀ p.1 = some p.2)
    (turn : ∀ i (c : σ) v (u : Str → Option Value) h tk own, xs[i]? = some v → OwnOff own adr → J i c →
      Fr h₀ env.locals h (kstB (fun z => if stored.contains z then u z else m₀ z) (ps c)) → News h₀ env.locals h (Led c ++ own) →
      wpAny (model prog w) A (assign target env v) (fun _ s₂ => wpAny (model prog w) A (execs body env) (InvPostN h₀ env.locals (RT Led ps stored m₀ (J (i + 1))) own adr { s with heap := h, toks := tk } Q) E s₂) E { s with heap := h, toks := tk })
    (done : ∀ (c : σ) (u : Str → Option Value) h tk, J xs.length c → Fr h₀ env.locals h (kstB (fun z => if stored.contains z then u z else m₀ z) (ps c)) → News h₀ env.locals h (Led c) → Q .next { s with heap := h, toks := tk }) :
    TurnsAt prog w A h₀ env target body Q E (.ref I) s := by
  refine ⟨I, _, _, _, _, _, _, m₀, Led c₀, fun i m nx => RT Led ps stored m₀ (J i) m nx, rfl, KTurns.ofWalks W hgo, ?_, ?_, ?_, hst, F, N, ⟨c₀, rfl, hj, hk, fun _ _ _ => rfl⟩, ?_, ?_⟩
  · intro hmm
    rcases List.mem_cons.mp hmm with e | hmm
    · exact hLI e
    · exact hLl (List.mem_singleton.mp hmm)
  · intro b hb
    rw [List.mem_singleton.mp hb]; exact hI0
  · intro p hp hI
    exact hoff p.1 (by rw [← ha c₀]; exact List.mem_map.mpr ⟨p, hp, rfl⟩) (List.mem_singleton.mp hI)
  · rintro i v m₁ news₁ h₁ tk₁ own hin hPv ⟨c, rfl, hJ, h1, h2⟩ _ hown hget hall hst₁ F₁ N₁
    obtain ⟨oI, hoI⟩ := hob _ _ hst₁
    have hsep : OwnOff (own.filter fun p => decide (p.1 = I)) adr := by
      intro p hp b hb e
      have h1 : p.1 = I := by simpa using (List.mem_filter.mp hp).2
      exact hoff b hb (e ▸ h1)
    have N₂ : News h₀ env.locals h₁ (Led c ++ own.filter fun p => decide (p.1 = I)) := fun p hp => N₁ p ((List.mem_append.mp hp).elim (fun h => List.mem_append.mpr (.inr h)) fun h => List.mem_append.mpr (.inl ((List.mem_filter.mp h).1)))
    have F₂ : Fr h₀ env.locals h₁ (kstB (fun z => if stored.contains z then m₁ z else m₀ z) (ps c)) := by rw [rt_map h1 h2]; exact F₁
    have hlo : h₁.get? l = some lo := (N₁ _ (List.mem_append.mpr (.inr (hm c)))).1
    refine wpAny_mono (turn i c v m₁ h₁ tk₁ _ (hP i v hin hPv) hsep hJ F₂ N₂) (fun _ s₂ q => wpAny_mono q (fun f s₃ p => ?_) fun _ _ x => x) fun _ _ x => x
    have fin : InvEndN h₀ env.locals (RT Led ps stored m₀ (J (i + 1))) (own.filter fun p => decide (p.1 = I)) adr { s with heap := h₁, toks := tk₁ } s₃ →
        LoopStepU h₀ env.locals [I] own (fun m nx => RT Led ps stored m₀ (J (i + 1)) m nx) { s with heap := h₁, toks := tk₁ } .next s₃ := by
      rintro ⟨h', tk, m', news', nx, e, F', N', hn, ho, hadr, hS⟩
      refine ⟨rfl, h', tk, m', nx, e, F', fun p hp => ?_, fun p hp hI => ?_, hS⟩
      · rcases List.mem_append.mp hp with h | h
        · by_cases hI : p.1 = I
          · exact N' p (ho p (List.mem_filter.mpr ⟨h, by simpa using hI⟩))
          · have h1 : p.1 = l := by
              rcases List.mem_cons.mp (hown p h) with h2 | h2
              · exact absurd h2 hI
              · exact List.mem_singleton.mp h2
            have h2 : h₁.get? p.1 = some p.2 := hget p h
            rw [h1, hlo] at h2
            have h3 : p = (l, lo) := Prod.ext h1 (Option.some.inj h2).symm
            rw [h3]
            obtain ⟨c', rfl, _⟩ := hS
            exact N' _ (hn _ (hm c'))
        · exact N' p (hn p h)
      · exact hoff p.1 (by rw [← hadr]; exact List.mem_map.mpr ⟨p, hp, rfl⟩) (List.mem_singleton.mp hI)
    cases f with
    | ret v => exact .ret p
    | brk => exact .brk p
    | next => exact .next (fin p)
    | cont => exact .cont (fin p)
  · rintro h' tk m' news' F' N' _ ⟨c, rfl, hJ, h1, h2⟩
    refine done c m' h' tk hJ ?_ N'
    rw [rt_map h1 h2]; exact F'

/-- over a list of the ledger, from its head. -/
theorem lstT {σ : Type} {l : Addr} {n : Nat} {xs : List Value} {m₀ : Str → Option Value} {adr : List Addr} (Led : σ → List (Addr × Obj)) (ps : σ → List (Str × Value)) (stored : List Str) (J : Nat → σ → Prop) (c₀ : σ)
    (hh : A.handled = none) (F : Fr h₀ env.locals s.heap m₀) (N : News h₀ env.locals s.heap (Led c₀)) (ha : ∀ c, (Led c).map (·.1) = adr) (hm : ∀ c, (l, listOf xs.toArray n) ∈ Led c) (hj : J 0 c₀) (hk : ∀ p ∈ ps c₀, m₀ p.1 = some p.2)
    (turn : ∀ i (c : σ) v (u : Str → Option Value) h tk own, xs[i]? = some v → OwnOff own adr → J i c →
      Fr h₀ env.locals h (kstB (fun z => if stored.contains z then u z else m₀ z) (ps c)) → News h₀ env.locals h (Led c ++ own) →
      wpAny (model prog w) A (assign target env v) (fun _ s₂ => wpAny (model prog w) A (execs body env) (InvPostN h₀ env.locals (RT Led ps stored m₀ (J (i + 1))) own adr { s with heap := h, toks := tk } Q) E s₂) E { s with heap := h, toks := tk })
    (done : ∀ (c : σ) (u : Str → Option Value) h tk, J xs.length c → Fr h₀ env.locals h (kstB (fun z => if stored.contains z then u z else m₀ z) (ps c)) → News h₀ env.locals h (Led c) → Q .next { s with heap := h, toks := tk }) :
    wpAny (model prog w) A (pyIter (.ref l)) (fun it s₂ => TurnsAt prog w A h₀ env target body Q E it s₂) E s := by
  have hlx := N _ (hm c₀)
  have hls : s.heap.IsList l xs.toArray := ⟨_, hlx.1, rfl, n, rfl⟩
  have hne : l ≠ s.heap.objs.size := Nat.ne_of_lt (Heap.lt_size hlx.1)
  refine wpAny_pyIter_list hls ?_
  have W := Walks.list (prog := prog) (w := w) hh s.heap.objs.size l hne xs.toArray
  have hlen : xs.toArray.size = xs.length := by simp
  rw [hlen] at W
  refine turnsL (s := { s with heap := _ }) Led ps stored J c₀ W (fun i v s Q E st q => letGo_listiter st.1 q) (fun i v _ hp => by simpa using hp) (fun e => absurd F.ns.lt (e ▸ Nat.lt_irrefl _)) (fun e => hlx.2.1 e.symm) (next_is_new F) ⟨⟨_, Heap.get?_push_size _ rfl, rfl, rfl⟩, hls.at fun o e => Heap.get?_push_of_some _ e⟩ (fun i h st => ?_) (F.push _) (fun p hp => ⟨Heap.get?_push_of_some _ (N p hp).1, (N p hp).2⟩) ha hm (fun b hb e => ?_) hj hk turn done
  · obtain ⟨⟨o, ho, _⟩, _⟩ := st
    exact ⟨o, ho⟩
  · rw [← ha c₀] at hb
    obtain ⟨p, hp, rfl⟩ := List.mem_map.mp hb
    exact absurd (Heap.lt_size (N p hp).1) (e ▸ Nat.lt_irrefl _)

/-- over a list of the ledger, from its end. -/
theorem revT {σ : Type} {l I : Addr} {n : Nat} {xs : List Value} {m₀ : Str → Option Value} {adr : List Addr} {x : Str} {px : Pos} (Led : σ → List (Addr × Obj)) (ps : σ → List (Str × Value)) (stored : List Str) (J : Nat → σ → Prop) (c₀ : σ)
    (hh : A.handled = none) (F : Fr h₀ env.locals s.heap m₀) (N : News h₀ env.locals s.heap ((I, revObj l ((xs.length : Int) - 1)) :: Led c₀)) (hoff : ∀ b ∈ adr, b ≠ I) (ha : ∀ c, (Led c).map (·.1) = adr) (hm : ∀ c, (l, listOf xs.toArray n) ∈ Led c) (hj : J 0 c₀) (hk : ∀ p ∈ ps c₀, m₀ p.1 = some p.2)
    (turn : ∀ i (c : σ) v (u : Str → Option Value) h tk own, xs.reverse[i]? = some v → OwnOff own adr → J i c →
      Fr h₀ env.locals h (kstB (fun z => if stored.contains z then u z else m₀ z) (ps c)) → News h₀ env.locals h (Led c ++ own) →
      wpAny (model prog w) A (assign (.Name x px) env v) (fun _ s₂ => wpAny (model prog w) A (execs body env) (InvPostN h₀ env.locals (RT Led ps stored m₀ (J (i + 1))) own adr { s with heap := h, toks := tk } Q) E s₂) E { s with heap := h, toks := tk })
    (done : ∀ (c : σ) (u : Str → Option Value) h tk, J xs.length c → Fr h₀ env.locals h (kstB (fun z => if stored.contains z then u z else m₀ z) (ps c)) → News h₀ env.locals h (Led c) → Q .next { s with heap := h, toks := tk }) :
    wpAny (model prog w) A (pyIter (.ref I)) (fun it s₂ => TurnsAt prog w A h₀ env (.Name x px) body Q E it s₂) E s := by
  have hlx := N _ (List.mem_cons_of_mem _ (hm c₀))
  have hIx := N _ (List.mem_cons_self ..)
  have hls : s.heap.IsList l xs.toArray := ⟨_, hlx.1, rfl, n, rfl⟩
  have hne : l ≠ I := hoff l (by rw [← ha c₀]; exact List.mem_map.mpr ⟨_, hm c₀, rfl⟩)
  have hit : s.heap.IsRevIter I l ((xs.length : Int) - 1) := ⟨_, hIx.1, rfl, rfl⟩
  refine wpAny_pyIter_revIter hit ?_
  have W := Walks.listRev (prog := prog) (w := w) hh I l hne xs.toArray
  have hlen : xs.toArray.size = xs.length := by simp
  rw [hlen, ← List.length_reverse] at W
  refine turnsL Led ps stored J c₀ W (fun i v s Q E st q => wpAny_pure q) (fun i v hi hp => ?_) (fun e => hIx.2.1 e.symm) (fun e => hlx.2.1 e.symm) hIx.2.2 ⟨Nat.zero_le _, ?_, hls⟩ (fun i h st => ?_) F (fun p hp => N p (List.mem_cons_of_mem _ hp)) ha hm hoff hj hk turn (by rw [List.length_reverse]; exact done)
  · rw [List.length_reverse] at hi
    rw [List.getElem?_reverse hi]
    simpa using hp
  · have e : (xs.reverse.length : Int) - 1 - ((0 : Nat) : Int) = (xs.length : Int) - 1 := by rw [List.length_reverse]; omega
    rw [e]; exact hit
  · obtain ⟨_, ⟨o, ho, _⟩, _⟩ := st
    exact ⟨o, ho⟩
end

abbrev tupO (vs : List Value) (n : Nat) : Obj := { cls := .type "tuple", data := .seq vs.toArray n }
/-- a step of the ledger: two places and a condition. -/
def StepIs (tl : List (Addr × Obj)) (v : Value) (d : Int × Int × Int) : Prop :=
  ∃ a n t1 t2 cv, v = Value.ref a ∧ (a, tupO [.int d.1 t1, .int d.2.1 t2, cv] n) ∈ tl ∧ CondIs cv d.2.2 ∧ (0 ≤ d.1 ∧ d.1 < 4) ∧ (0 ≤ d.2.1 ∧ d.2.1 < 4)
theorem StepIs.mono {tl tl' : List (Addr × Obj)} (h : ∀ p ∈ tl, p ∈ tl') {v : Value} {d : Int × Int × Int} : StepIs tl v d → StepIs tl' v d
  | ⟨a, n, t1, t2, cv, e, m, r⟩ => ⟨a, n, t1, t2, cv, e, h _ m, r⟩
theorem All2.mono {α β : Type} {R R' : α → β → Prop} (h : ∀ a b, R a b → R' a b) : ∀ {as : List α} {bs : List β}, All2 R as bs → All2 R' as bs
  | _, _, .nil => .nil
  | _, _, .cons r t => .cons (h _ _ r) (t.mono h)
def SJ (ls : Addr) (rest : List (Addr × Obj)) (x : Str) (stored : List Str) (m₀ : Str → Option Value) (i : Nat) (m : Str → Option Value) (nx : List (Addr × Obj)) : Prop :=
  ∃ vs ds nn tl, nx = (ls, listOf vs.toArray nn) :: (rest ++ tl) ∧ OwnOff tl (ls :: rest.map (·.1)) ∧ All2 (StepIs tl) vs ds ∧ ds.length = i ∧ ∀ z, z ≠ x → stored.contains z = false → m z = m₀ z
section
variable {prog : Program} {w : World} {A : Around} {E : Value → Shared → Prop} {s : Shared} {env : Env} {h₀ : Heap} {x : Str} {body : List Stmt} {Q : Flow → Shared → Prop}
theorem stp {r ls : Addr} {b₀ : Int} {t₀ u₀ v₀ : Tok} {n : Nat} {m₀ : Str → Option Value} (rest : List (Addr × Obj)) (stored : List Str)
    (hh : A.handled = none) (hr : IsRange s.heap r 0 b₀ 1 t₀ u₀ v₀) (hb : b₀ = (n : Int)) (hs : n < 2 ^ 60) (F : Fr h₀ env.locals s.heap m₀) (N : News h₀ env.locals s.heap ((ls, listOf #[] 0) :: rest))
    (turn : ∀ (i : Nat) vs ds nn tl t (u : Str → Option Value) h tk own, i < n → OwnOff own (ls :: rest.map (·.1)) → OwnOff own (tl.map (·.1)) → OwnOff tl (ls :: rest.map (·.1)) → All2 (StepIs tl) vs ds → ds.length = i →
      Fr h₀ env.locals h (fun y => if y = x then some (.int (i : Int) t) else if stored.contains y then u y else m₀ y) → News h₀ env.locals h ((ls, listOf vs.toArray nn) :: (rest ++ (tl ++ own))) →
      wpAny (model prog w) A (execs body env) (InvPostG h₀ env.locals (SJ ls rest x stored m₀ (i + 1)) own { s with heap := h, toks := tk } Q) E { s with heap := h, toks := tk })
    (done : ∀ vs ds nn tl (u : Str → Option Value) h tk, OwnOff tl (ls :: rest.map (·.1)) → All2 (StepIs tl) vs ds → ds.length = n →
      Fr h₀ env.locals h (fun y => if y = x then u y else if stored.contains y then u y else m₀ y) → News h₀ env.locals h ((ls, listOf vs.toArray nn) :: (rest ++ tl)) → Q .next { s with heap := h, toks := tk }) :
    wpAny (model prog w) A (pyIter (.ref r)) (fun it s₂ => LoopAtV prog w A h₀ env x body Q E it s₂) E s := by
  have hn : Builtin.Range.rangeSize 0 b₀ 1 = (n : Int) := by rw [rangeSize_nat]; omega
  have hsmall : Builtin.Range.small 0 b₀ 1 = true := small_one (by omega) (by omega) (by omega) (by omega)
  refine wpAny_pyIter_range hr hsmall ?_
  have W : Walks prog w A s.heap.objs.size [s.heap.objs.size] [s.heap.objs.size] n (fun i v => i < n ∧ ∃ t, v = .int (0 + i * 1) t)
      (fun i h => IsRangeIter h s.heap.objs.size (0 + (i : Nat) * 1) ((n : Int) - (i : Nat)) 1) := (Walks.range hh _ 0 1 n).bound
  refine kdr_loop (fun i m nx => SJ ls rest x stored m₀ i m nx) W (fun _ h => h) (fun _ h => h) ?_ ?_ ?_ ?_ (by show IsRangeIter _ _ _ _ _; rw [hn]; simpa using Heap.get?_push_size _ rfl) (F.push _) (fun p hp => ⟨Heap.get?_push_of_some _ (N p hp).1, (N p hp).2⟩) ⟨[], [], 0, [], by simp, (fun _ h => nomatch h), .nil, rfl, fun _ _ _ => rfl⟩ ?_ ?_
  · intro i h hi b hb
    rw [List.mem_singleton.mp hb]
    exact ⟨_, hi⟩
  · intro hm
    exact absurd F.ns.lt ((List.mem_singleton.mp hm) ▸ Nat.lt_irrefl _)
  · intro b hb
    rw [List.mem_singleton.mp hb]
    exact next_is_new F
  · intro p hp hI
    exact absurd (Heap.lt_size (N p hp).1) ((List.mem_singleton.mp hI) ▸ Nat.lt_irrefl _)
  · rintro i v m₁ nx h tk own hi ⟨_, t, rfl⟩ hoff ⟨vs, ds, nn, tl, rfl, ht, hst, hl, h2⟩ F₁ N₁
    have e1 : (0 : Int) + (i : Int) * 1 = (i : Int) := by omega
    rw [e1] at F₁
    have em : (fun y => if y = x then some (Value.int (i : Int) t) else if stored.contains y then m₁ y else m₀ y) = fun y => if y = x then some (Value.int (i : Int) t) else m₁ y := by
      funext y
      by_cases hy : y = x
      · simp [hy]
      · simp only [if_neg hy]
        by_cases hs' : stored.contains y = true
        · rw [if_pos hs']
        · rw [if_neg hs', h2 y hy (by simpa using hs')]
    refine turn i vs ds nn tl t m₁ h tk own hi (fun p hp b hb => hoff p hp b ?_) (fun p hp b hb => hoff p hp b ?_) ht hst hl (by rw [em]; exact F₁) ?_
    · simp only [List.map_cons, List.map_append, List.mem_cons, List.mem_append] at hb ⊢
      exact hb.elim .inl fun h => .inr (.inl h)
    · simp only [List.map_cons, List.map_append, List.mem_cons, List.mem_append]
      exact .inr (.inr hb)
    · intro p hp
      apply N₁
      simp only [List.cons_append, List.append_assoc, List.mem_cons, List.mem_append] at hp ⊢
      exact hp
  · rintro m₁ nx h tk ⟨vs, ds, nn, tl, rfl, ht, hst, hl, h2⟩ F₁ N₁
    have em : (fun y => if y = x then m₁ y else if stored.contains y then m₁ y else m₀ y) = m₁ := by
      funext y
      by_cases hy : y = x
      · simp [hy]
      · simp only [if_neg hy]
        by_cases hs' : stored.contains y = true
        · rw [if_pos hs']
        · rw [if_neg hs', h2 y hy (by simpa using hs')]
    exact done vs ds nn tl m₁ h tk ht hst hl (by rw [em]; exact F₁) N₁
theorem stp_end {L ls T : Addr} {rest tl own news' : List (Addr × Obj)} {stored : List Str} {m₀ m' : Str → Option Value} {i nn nt tk : Nat} {vs : List Value} {ds : List (Int × Int × Int)} {l r c : Int} {t1 t2 : Tok} {cv : Value} {h' : Heap} {s₁ : Shared}
    (F : Fr h₀ L h' m') (N : News h₀ L h' news') (h1 : (ls, listOf (vs ++ [Value.ref T]).toArray nn) ∈ news') (h2 : (T, tupO [.int l t1, .int r t2, cv] nt) ∈ news') (h3 : ∀ p ∈ rest ++ (tl ++ own), p ∈ news')
    (hA : ls < T ∧ AllLt T (rest ++ (tl ++ own))) (ho : OwnOff own (ls :: rest.map (·.1))) (ho2 : OwnOff own (tl.map (·.1))) (ht : OwnOff tl (ls :: rest.map (·.1))) (hst : All2 (StepIs tl) vs ds) (hl : ds.length = i)
    (hc : CondIs cv c) (hL : 0 ≤ l ∧ l < 4) (hR : 0 ≤ r ∧ r < 4) (hr : ∀ z, z ≠ x → stored.contains z = false → m' z = m₀ z) :
    InvEndG h₀ L (SJ ls rest x stored m₀ (i + 1)) own s₁ { s₁ with heap := h', toks := tk } := by
  have hA2 : ∀ p ∈ rest ++ (tl ++ own), p.1 < T := fun p hp => kst_ltOf hA.2 p hp
  have hT : ∀ b ∈ ls :: rest.map (·.1), T ≠ b := by
    intro b hb e
    rcases List.mem_cons.mp hb with h | h
    · exact absurd hA.1 (by rw [e, h]; exact Nat.lt_irrefl _)
    · obtain ⟨q, hq, rfl⟩ := List.mem_map.mp h
      exact absurd (hA2 q (List.mem_append_left _ hq)) (by rw [e]; exact Nat.lt_irrefl _)
  have hTo : ∀ p ∈ own, p.1 ≠ T := fun p hp => Nat.ne_of_lt (hA2 p (List.mem_append_right _ (List.mem_append_right _ hp)))
  refine InvEndG.intro F N ⟨vs ++ [Value.ref T], ds ++ [(l, r, c)], nn, (T, tupO [.int l t1, .int r t2, cv] nt) :: tl, rfl, ?_, ?_, by simp [hl], hr⟩ ?_ ?_ (fun p hp => h3 p (List.mem_append_right _ (List.mem_append_right _ hp)))
  · intro p hp b hb
    rcases List.mem_cons.mp hp with rfl | hp
    · exact hT b hb
    · exact ht p hp b hb
  · exact All2.push ⟨T, nt, t1, t2, cv, rfl, .head _, hc, hL, hR⟩ (hst.mono fun _ _ q => q.mono fun p hp => .tail _ hp)
  · intro p hp b hb
    simp only [List.map_cons, List.map_append, List.mem_cons, List.mem_append] at hb
    rcases hb with h | h | h | h
    · exact ho p hp b (by rw [h]; exact .head _)
    · exact ho p hp b (.tail _ h)
    · rw [h]; exact hTo p hp
    · exact ho2 p hp b h
  · intro p hp
    simp only [List.mem_cons, List.mem_append] at hp
    rcases hp with rfl | h | rfl | h
    · exact h1
    · exact h3 p (List.mem_append_left _ h)
    · exact h2
    · exact h3 p (List.mem_append_right _ (List.mem_append_left _ h))
end
end Mine

namespace Mine
section
variable {prog : Program} {w : World} {A : Around} {s : Shared} {h₀ : Heap} {L : Addr} {m : Str → Option Value} {env : Env}
theorem compN {elt : Expr} {x : Str} {scope : Scope} {cl : List (Str × Addr)} {S : List (Addr × Obj) → Prop} {P : Nat → Value → Prop} {Fin : List Value → List (Addr × Obj) → Prop} {n : Nat} {news : List (Addr × Obj)}
    (J : Nat → List Value → List (Addr × Obj) → Prop) (h0 : J 0 [] news)
    (turn : ∀ i ys nx v I oI C oC D m₂ h tk (E' : Value → Shared → Prop), i < n → J i ys nx → P i v → LCg.NsObj oC m₂ → m₂ x = some v → Fr h₀ L h m → News h₀ L h ((I, oI) :: (C, oC) :: (D, LCg.lst ys) :: nx) → LCg.Off3 I C D nx → ((@Ne Nat I C) ∧ (@Ne Nat I D) ∧ (@Ne Nat C D)) →
      wpAny (model prog w) A (eval elt (compEnvC scope cl C env)) (LCg.CompEnd h₀ L m { s with heap := h, toks := tk } I oI C oC D (LCg.lst ys) S (fun y nx' => J (i + 1) (ys ++ [y]) nx')) E' { s with heap := h, toks := tk })
    (done : ∀ ys nx, J n ys nx → Fin ys nx) : LCg.CompRest prog w A h₀ L m env elt x scope cl s S P Fin n 0 [] news := by
  have key : ∀ k i ys nx, i + k = n → J i ys nx → LCg.CompRest prog w A h₀ L m env elt x scope cl s S P Fin k i ys nx := by
    intro k
    induction k with
    | zero =>
      intro i ys nx e hj
      obtain rfl : i = n := by omega
      exact LCg.CompRest.zero (done _ _ hj)
    | succ k ih =>
      intro i ys nx e hj
      refine LCg.CompRest.succ fun v I oI C oC D m₂ h tk E' hP hC hx F N off ne => ?_
      refine wpAny_mono (turn i ys nx v I oI C oC D m₂ h tk E' (by omega) hj hP hC hx F N off ne) (fun y s₂ p => ?_) fun _ _ x => x
      obtain ⟨h', tk', nx', e', F', N', o', S', r'⟩ := p
      exact ⟨h', tk', nx', e', F', N', o', S', ih (i + 1) _ _ (by omega) r'⟩
  exact key n 0 [] news (by omega) h0
theorem my_unpack {E : Value → Shared → Prop} {elts : List Expr} {k} {pos : Pos} {t : Addr} {vs : List Value} {n : Nat} {news : List (Addr × Obj)} {Q : Unit → Shared → Prop} (F : Fr h₀ L s.heap m) (N : News h₀ L s.heap news) (hm : (t, tupO vs n) ∈ news)
    (hh : A.handled = none) (hn : (assignEach elts env).length = vs.toArray.size) (hstar : (assignEach elts env).findIdx? (·.1) = none)
    (h : ∀ h', Fr h₀ L h' m → News h₀ L h' news → wpAny (model prog w) A (assignInOrder ((assignEach elts env).map (·.2)) vs.toArray.toList) Q E { s with heap := h' }) :
    wpAny (model prog w) A (assign (.Tuple elts k pos) env (.ref t)) Q E s :=
  unpackN_ F N ⟨_, (N _ hm).1, rfl, n, rfl⟩ hh hn hstar h
theorem splitN {h : Heap} {q : Addr × Obj} {R : List (Addr × Obj)} (N : News h₀ L h (q :: R)) : ∃ R', R' = R ∧ News h₀ L h (q :: R') := ⟨R, rfl, N⟩
theorem All2.at {α β : Type} {R : α → β → Prop} : ∀ {as : List α} {bs : List β}, All2 R as bs → ∀ {i : Nat} {a : α}, as[i]? = some a → ∃ b, bs[i]? = some b ∧ R a b
  | _, _, .nil, _, _, h => by simp at h
  | _, _, .cons r _, 0, _, h => ⟨_, rfl, by have e := Option.some.inj h; exact e ▸ r⟩
  | _, _, .cons _ t, i + 1, _, h => t.at (i := i) h
theorem take_fold {α β : Type} {f : α → β → α} {a : α} {l : List β} {i : Nat} {b : β} (h : l[i]? = some b) : (l.take (i + 1)).foldl f a = f ((l.take i).foldl f a) b := by
  rw [List.take_add_one, h, List.foldl_append]; rfl
theorem stepsVd {tl : List (Addr × Obj)} : ∀ {vs : List Value} {ds : List (Int × Int × Int)}, All2 (StepIs tl) vs ds → ∀ d ∈ ds, Vd d
  | _, _, .nil, _, h => nomatch h
  | _, _, .cons r t, d, h => by
    rcases List.mem_cons.mp h with rfl | h
    · obtain ⟨_, _, _, _, _, _, _, _, a, b⟩ := r
      exact ⟨a, b⟩
    · exact stepsVd t d h
theorem rt_end {σ : Type} {Led : σ → List (Addr × Obj)} {ps : σ → List (Str × Value)} {stored : List Str} {m₀ m' : Str → Option Value} {J : σ → Prop} {news' own : List (Addr × Obj)} {adr : List Addr} {h' : Heap} {tk : Nat} {s₁ : Shared} (c : σ)
    (F : Fr h₀ L h' m') (N : News h₀ L h' news') (hJ : J c) (hk : ∀ p ∈ ps c, m' p.1 = some p.2) (hr : ∀ z, (∀ p ∈ ps c, z ≠ p.1) → stored.contains z = false → m' z = m₀ z) (ha : (Led c).map (·.1) = adr) (hn : ∀ p ∈ Led c, p ∈ news') (ho : ∀ p ∈ own, p ∈ news') :
    InvEndN h₀ L (RT Led ps stored m₀ J) own adr s₁ { s₁ with heap := h', toks := tk } :=
  InvEndN.intro F N ⟨c, rfl, hJ, hk, hr⟩ ha hn ho
end
end Mine

namespace Mine
local macro_rules | `(tactic| walk_at "my step") => `(tactic| (fail_if_success (with_reducible show InvEndN _ _ _ _ _ _ _)); (fail_if_success (with_reducible show InvEndG _ _ _ _ _ _)); (fail_if_success (with_reducible show LCg.CompRest _ _ _ _ _ _ _ _ _ _ _ _ _ _ _ _ _ _ _)); (fail_if_success (with_reducible show LCg.CompEnd _ _ _ _ _ _ _ _ _ _ _ _ _ _)); first | (k_unfold; (try dsimp only)) | ((fail_if_success (with_reducible show wpAny _ _ (pyIter (Value.ref _)) _ _ _)); first | (k_end; wrow_close) | walk1 | (dsimp only; walk1) | (leave1; walk_say "STEP leave1"; try dsimp only)) | fail "no step")
local macro_rules | `(tactic| walk_at "my steps") => `(tactic| repeat' (walk_at "my step"))
local macro_rules | `(tactic| walk_at "call ref") => `(tactic| (k_here; k_dflt (refine' pick_v ?k1 ?k2 ?k3 ?k4 ?k5 ?k6 ?k7 ?k8 ?k9 ?k10 ?k11 ?k12 ?k13 ?_; (case k1 => k_asm); (case k2 => k_asm); (case k3 => k_asm); (case k4 => k_asm); (case k5 => k_asm); (case k6 => first | exact rfl | assumption); (case k7 => k_asm); (case k8 => l_ints); (case k9 => l_fit); (case k10 => (refine ⟨?_, ?_, ?_, ?_⟩ <;> omega)); (case k11 => ktr_room); (case k12 => ktr_units); (case k13 => first | assumption | exact rfl); intro _ _ _ F' N')))
local macro_rules | `(tactic| walk_at "call ref") => `(tactic| (k_here; k_dflt (refine' row_r ?k1 ?k2 ?k3 ?k4 ?k5 ?k6 ?k7 ?k8 ?k9 ?k10 ?k11 ?k12 ?_; (case k1 => k_asm); (case k2 => k_asm); (case k3 => k_asm); (case k4 => k_asm); (case k5 => k_asm); (case k6 => first | exact rfl | assumption); (case k7 => k_asm); (case k8 => l_ints); (case k9 => l_fit); (case k10 => (refine ⟨?_, ?_, ?_⟩ <;> omega)); (case k11 => ktr_room); (case k12 => ktr_units); intro _ _ _ _ _ _ F' N' hi' hin' hlen' hof'; (try simp only [List.cons_append, List.nil_append, List.forall_mem_cons] at hof'))))

local macro_rules | `(tactic| walk_at "call ref") => `(tactic| (k_here; k_dflt (refine' sel_r ?k1 ?k2 ?k3 ?k4 ?k5 ?k6 ?k7 ?k8 ?k9 ?k9' ?kc ?k11 ?k12 ?_ ?_; (case k1 => k_asm); (case k2 => k_asm); (case k3 => k_asm); (case k4 => k_asm); (case k5 => k_asm); (case k6 => first | exact rfl | assumption); (case k7 => assumption); (case k8 => assumption); (case k9 => omega); (case k9' => omega); (case kc => assumption); (case k11 => ktr_room); (case k12 => ktr_units)); (intro hl' _ _ _ F' N'); rotate_left; (intro hl' g' _ _ _ FG' R' U'); rotate_right))
local macro_rules | `(tactic| walk_at "call type:range") => `(tactic| (k_here; (rename Fr _ _ _ _ => F'); (rename News _ _ _ _ => N'); first
  | (with_unfolding_all refine range1_rows F' N' ?_; intro _ _ _ _ _ _ _ _ _)
  | (with_unfolding_all refine range2_rows F' N' ?_; intro _ _ _ _ _ _ _ _ _)))

local macro_rules | `(tactic| walk_at "my all2") => `(tactic| first | assumption | exact All2.push ⟨_, rfl⟩ (by assumption))
local macro_rules | `(tactic| walk_at "my idx") => `(tactic| ((try simp only [List.length_append, List.length_cons, List.length_nil, List.length_set]); omega))
local macro_rules | `(tactic| walk_at "call builtin:list.append") => `(tactic| (k_here; (with_reducible show wpAny _ _ (call (Value.builtin _) [Value.ref _, _]) _ _ _); k_dflt (refine' append_L ?k1 ?k2 ?k3 ?z ?_; (case k1 => k_asm); (case k2 => k_asm); (case k3 => k_upd); (case z => walk_at "my idx")); intro h' F' N'))
local macro_rules | `(tactic| walk_at "setItem ref int") => `(tactic| (k_here; (with_reducible show wpAny _ _ (setItem (Value.ref _) (Value.int _ _) (Value.bytes _ _)) _ _ _); k_dflt (refine' set_L ?k1 ?k2 ?k3 ?k4 ?k5 ?k6 ?_; (case k1 => k_asm); (case k2 => k_asm); (case k3 => k_upd); (case k4 => walk_at "my idx"); (case k5 => walk_at "my idx"); (case k6 => walk_at "my idx")); intro h' F' N'))
local macro_rules | `(tactic| walk_at "binaryOp Add bytes bytes") => `(tactic| (k_here; k_dflt (refine' add_B (ys := [255]) ?z ?a in_255 ?_; (case a => assumption); (case z => walk_at "my idx")); intro _ _))
local macro_rules | `(tactic| walk_at "subscriptTail") => `(tactic| (k_here; (with_reducible show wpAny _ _ (subscriptTail _ _ (Value.ref _) (Value.int _ _)) _ _ _); k_dflt (refine' sub_bytes ?k1 ?k2 ?k3 ?k4 ?k5 ?k6 ?_ ?k7; (case k1 => k_asm); (case k2 => k_mem); (case k3 => walk_at "my all2"); (case k4 => walk_at "my idx"); (case k5 => walk_at "my idx"); (case k6 => walk_at "my idx"); (case k7 => with_unfolding_all rfl)); intro _))
local macro_rules | `(tactic| walk_at "subscriptTail") => `(tactic| (k_here; (with_reducible show wpAny _ _ (subscriptTail _ _ (Value.ref _) (Value.int _ _)) _ _ _); k_dflt (refine' sub_conds ?k1 ?k2 ?k3 ?k4 ?k5 ?k6 ?_ ?k7; (case k1 => k_asm); (case k2 => k_mem); (case k3 => walk_at "my all2"); (case k4 => walk_at "my idx"); (case k5 => walk_at "my idx"); (case k6 => walk_at "my idx"); (case k7 => with_unfolding_all rfl)); intro _ hcv'))
local macro_rules | `(tactic| walk_at "subscriptTail") => `(tactic| (k_here; (with_reducible show wpAny _ _ (subscriptTail _ _ (Value.ref _) (Value.int _ _)) _ _ _); k_dflt (refine' sub_last ?k1 ?k2 ?k4 ?k5 ?_ ?k7; (case k1 => k_asm); (case k2 => k_mem); (case k4 => walk_at "my idx"); (case k5 => walk_at "my idx"); (case k7 => with_unfolding_all rfl))))


local macro_rules | `(tactic| walk_at "exec Assign cons ListComp") => `(tactic| (k_here; k_dflt (refine LCg.Assign_ListComp_U (F₀ := by k_asm) (by rfl) (by with_unfolding_all rfl) (by with_unfolding_all rfl) (by decide) (by rfl) (by decide) (by rfl) (by rfl) (by rfl) ?_)))
local macro_rules | `(tactic| walk_at "eval ListComp") => `(tactic| (k_here; k_dflt (refine LCg.ListComp_U (F₀ := by k_asm) (by with_unfolding_all rfl) (by decide) (by rfl) (by decide) (by rfl) ?_)))
local macro_rules | `(tactic| walk_at "CompSrc") => `(tactic| (k_here; k_dflt (first
  | (refine LCg.CompSrc.ledger (by rfl) (by k_asm) (by k_asm) (by k_mem) (by (rw [List.size_toArray, sizeLine_eq]; omega)) ?_; intro g')
  | (refine LCg.CompSrc.range (by rfl) (by k_asm) (by k_asm) (by assumption) (by first | decide | rfl) (by first | rfl | decide) (by exact Nat.le_of_ble_eq_true rfl) ?_; intro g'))))


local macro_rules | `(tactic| walk_at "assign Tuple") => `(tactic| (k_here; (with_reducible show wpAny _ _ (assign (Expr.Tuple _ _ _) _ (Value.ref _)) _ _ _); k_dflt (refine' my_unpack ?F ?N ?m ?k1 ?k2 ?k3 ?_; (case F => k_asm); (case N => k_asm); (case m => assumption); (case k1 => exact rfl); (case k2 => exact rfl); (case k3 => exact rfl)); intro h' F' N'))
local macro_rules | `(tactic| walk_at "exec For Name Name cons nil") => `(tactic| (k_here; (rename Fr _ _ _ _ => lF'); k_dflt (refine' For_turns lF' ?_)))
local macro_rules | `(tactic| walk_at "exec For Tuple Name cons nil") => `(tactic| (k_here; (rename Fr _ _ _ _ => lF'); k_dflt (refine' For_turns lF' ?_)))
local macro_rules | `(tactic| walk_at "exec For Name Call cons nil") => `(tactic| (k_here; (with_reducible show wpAny _ _ (exec (Stmt.For _ (Expr.Call (Expr.Name (Str.ofString "reversed") _) _ _ _) _ _ _) _) _ _ _); (rename Fr _ _ _ _ => lF'); k_dflt (refine' For_turns lF' ?_)))

theorem chg_c {w : World} {p : Program} {loose : List Str} {mean : ExcName → Option Value} {mg mb : Str → Option Value} : Tag PySem.Challenge.rw_yd0001_02 (∀ {rest : List (Addr × Obj)} {lr T : Addr} {rv : List Value} {rs : List (List Int)} {rk nt mn : Nat} {d : Int × Int × Int} {t1 t2 : Tok} {cv : Value}
    {dp un : Nat} {gd : Option (List Code)} {cn : Str} {cs : Scope} {a : Addr} {ccd : Value} {cl : List (Str × Addr)} {outer : List Env} {A₀ : Around} {base h₀ : Heap} {L : Addr} {m : Str → Option Value} {s : Shared} {Q E : Value → Shared → Prop}
    (k1 : Below A₀ base outer h₀) (k2 : Fr h₀ L s.heap m) (k3 : (hd.heap_39 w.params).In h₀) (k4 : News h₀ L s.heap ((lr, listOf rv.toArray rk) :: rest)) (k5 : Top p loose mean mg mb h₀) (k6 : cs.kind = .function)
    (k7 : (T, tupO [.int d.1 t1, .int d.2.1 t2, cv] nt) ∈ rest) (k8 : CondIs cv d.2.2) (k9 : Vd d) (kb : BytesAre rv rs) (ko : Ok mn rs) (kn : mn < 20) (kr : ∀ p ∈ rest, p.1 ≠ lr) (k11 : dp + 2 < recursionLimit) (k12 : un + 32 < cLine)
    (k : ∀ (rv' : List Value) (h' : Heap) (tk' : Nat), Fr h₀ L h' m → News h₀ L h' ((lr, listOf rv'.toArray rk) :: rest) → BytesAre rv' (chg rs d) → Q .none { s with heap := h', toks := tk' }),
    wpAny (model PySem.Challenge.rw_yd0001_02.prog w) (ktrTop dp un gd cn cs L a ccd cl outer) (call (.ref 40) [.ref lr, .ref T]) Q E s) := by
  k_fill
  unfold Tag
  intro rest lr T rv rs rk nt mn d t1 t2 cv dp un gd cn cs a ccd cl outer A₀ base h₀ L m s Q E k1 k2 k3 k4 k5 k6 k7 k8 k9 kb ko kn kr k11 k12 hret
  have hMk9 : KstMark := kstMark
  obtain ⟨l, r, c⟩ := d
  dsimp only at k7 k8
  obtain ⟨⟨v1, v2⟩, v3, v4⟩ := id k9
  dsimp only at v1 v2 v3 v4
  have h4 := ko.four
  have l1 := ko.len l.toNat (by omega)
  have l2 := ko.len r.toNat (by omega)
  have i1 : KBa.In _ := ko.oct l.toNat (by omega)
  have i2 : KBa.In _ := ko.oct r.toNat (by omega)
  have lrv := All2.length kb
  have hm7 : (T, tupO [.int l t1, .int r t2, cv] nt) ∈ (lr, listOf rv.toArray rk) :: rest := .tail _ k7
  have kr' : OwnOff rest [lr] := fun p hp b hb => by rw [List.mem_singleton.mp hb]; exact kr p hp
  refine wpAny_call ?_
  k_dflt cell_enter
  walk_at "my steps"
  · exact hret _ _ _ (by assumption) (by assumption) (All2.set ⟨_, rfl⟩ (All2.set ⟨_, rfl⟩ kb _) _)
  · exfalso; omega
  · exfalso; omega

theorem chg_r {w : World} {p : Program} {loose : List Str} {mean : ExcName → Option Value} {mg mb : Str → Option Value} {rest : List (Addr × Obj)} {lr T : Addr} {rv : List Value} {rs : List (List Int)} {rk nt mn : Nat} {d : Int × Int × Int} {t1 t2 : Tok} {cv : Value}
    {dp un : Nat} {gd : Option (List Code)} {cn : Str} {cs : Scope} {a : Addr} {ccd : Value} {cl : List (Str × Addr)} {outer : List Env} {A₀ : Around} {base h₀ : Heap} {L : Addr} {m : Str → Option Value} {s : Shared} {Q E : Value → Shared → Prop}
    (k1 : Below A₀ base outer h₀) (k2 : Fr h₀ L s.heap m) (k3 : (hd.heap_39 w.params).In h₀) (k4 : News h₀ L s.heap ((lr, listOf rv.toArray rk) :: rest)) (k5 : Top p loose mean mg mb h₀) (k6 : cs.kind = .function)
    (k7 : (T, tupO [.int d.1 t1, .int d.2.1 t2, cv] nt) ∈ rest) (k8 : CondIs cv d.2.2) (k9 : Vd d) (kb : BytesAre rv rs) (ko : Ok mn rs) (kn : mn < 20) (kr : ∀ p ∈ rest, p.1 ≠ lr) (k11 : dp + 2 < recursionLimit) (k12 : un + 32 < cLine)
    (k : ∀ (rv' : List Value) (h' : Heap) (tk' : Nat), Fr h₀ L h' m → News h₀ L h' ((lr, listOf rv'.toArray rk) :: rest) → BytesAre rv' (chg rs d) → Q .none { s with heap := h', toks := tk' }) :
    wpAny (model PySem.Challenge.rw_yd0001_02.prog w) (ktrTop dp un gd cn cs L a ccd cl outer) (call (.ref 40) [.ref lr, .ref T]) Q E s :=
  untag (o := PySem.Challenge.rw_yd0001_02) chg_c k1 k2 k3 k4 k5 k6 k7 k8 k9 kb ko kn kr k11 k12 k
end Mine

namespace Mine
theorem all2_same {xs ys : List Value} {rs : List (List Int)} : BytesAre xs rs → BytesAre ys rs → ∀ j (h1 : j < xs.toArray.size) (h2 : j < ys.toArray.size), ∃ b t u, xs.toArray[j] = Value.bytes b t ∧ ys.toArray[j] = Value.bytes b u := by
  intro hx hy j h1 h2
  have lx := All2.length hx
  have hj : j < rs.length := by simpa [lx] using h1
  obtain ⟨v, hv, t, rfl⟩ := All2.get [] hx j hj
  obtain ⟨v', hv', u, rfl⟩ := All2.get [] hy j hj
  refine ⟨byteArr (rs.getD j []), t, u, ?_, ?_⟩
  · have := List.getElem?_eq_some_iff.mp hv
    obtain ⟨_, e⟩ := this
    simpa using e
  · have := List.getElem?_eq_some_iff.mp hv'
    obtain ⟨_, e⟩ := this
    simpa using e
theorem all_true (n : Nat) : (List.range n).all (fun _ => true) = true := List.all_eq_true.mpr fun _ _ => rfl
section
variable {prog : Program} {w : World} {A : Around} {E : Value → Shared → Prop} {s : Shared} {h₀ : Heap} {L : Addr} {m : Str → Option Value}
theorem eqAt_bytes {b : Array UInt8} {t u : Tok} : SeqAt.EqAt A s (.bytes b t) (.bytes b u) true := fun prog w E Q hq => eqBool_bytes (by simpa using hq)
theorem eq_rows {a b : Addr} {xs ys : List Value} {n k : Nat} {rs : List (List Int)} {news : List (Addr × Obj)} {Q : Value → Shared → Prop} (N : News h₀ L s.heap news) (ha : (a, listOf xs.toArray n) ∈ news) (hb : (b, listOf ys.toArray k) ∈ news) (hx : BytesAre xs rs) (hy : BytesAre ys rs) (hu : A.units < cLine)
    (h : Q (.bool true) s) : wpAny (model prog w) A (compareOp .Eq (.ref a) (.ref b)) Q E s := by
  have la := PySem.IsL.isList (n := n) (N _ ha).1
  have lb := PySem.IsL.isList (n := k) (N _ hb).1
  refine SeqAt.eq_listAt (e := fun _ => true) la lb (by simp [All2.length hx, All2.length hy]) hu (fun j h1 h2 => ?_) (by rw [all_true]; exact h)
  obtain ⟨c, t, u, e1, e2⟩ := all2_same hx hy j h1 h2
  rw [e1, e2]; exact eqAt_bytes
theorem ne_rows {a b : Addr} {xs ys : List Value} {n k : Nat} {rs : List (List Int)} {news : List (Addr × Obj)} {Q : Value → Shared → Prop} (N : News h₀ L s.heap news) (ha : (a, listOf xs.toArray n) ∈ news) (hb : (b, listOf ys.toArray k) ∈ news) (hx : BytesAre xs rs) (hy : BytesAre ys rs) (hu : A.units < cLine)
    (h : Q (.bool false) s) : wpAny (model prog w) A (compareOp .NotEq (.ref a) (.ref b)) Q E s := by
  have la := PySem.IsL.isList (n := n) (N _ ha).1
  have lb := PySem.IsL.isList (n := k) (N _ hb).1
  refine (SeqAt.RcNeAt.lists (e := fun _ => true) la lb (by simp [All2.length hx, All2.length hy]) hu (fun j h1 h2 => ?_)) prog w E Q (by rw [all_true]; exact h)
  obtain ⟨c, t, u, e1, e2⟩ := all2_same hx hy j h1 h2
  rw [e1, e2]; exact eqAt_bytes

abbrev Row3 := List Value × List Int × Nat
/-- the ledger of the told rows. -/
def TL : List Addr → List Row3 → List (Addr × Obj)
  | a :: as, o :: os => (a, listOf o.1.toArray o.2.2) :: TL as os
  | _, _ => []
def no3 : Row3 := ([], [], 0)
theorem TL_push {a : Addr} {o : Row3} : ∀ {as : List Addr} {os : List Row3}, as.length = os.length → TL (as ++ [a]) (os ++ [o]) = TL as os ++ [(a, listOf o.1.toArray o.2.2)]
  | [], [], _ => rfl
  | _ :: as, _ :: os, h => by
    show _ :: TL (as ++ [a]) (os ++ [o]) = _ :: (TL as os ++ _)
    rw [TL_push (by simpa using h)]
theorem TL_fst : ∀ {as : List Addr} {os : List Row3}, as.length = os.length → (TL as os).map (·.1) = as
  | [], [], _ => rfl
  | a :: as, _ :: os, h => by
    show a :: (TL as os).map (·.1) = a :: as
    rw [TL_fst (by simpa using h)]
theorem TL_mem : ∀ {as : List Addr} {os : List Row3}, as.length = os.length → ∀ i, i < as.length → (as.getD i 0, listOf (os.getD i no3).1.toArray (os.getD i no3).2.2) ∈ TL as os
  | [], [], _, _, h => absurd h (Nat.not_lt_zero _)
  | _ :: _, _ :: _, _, 0, _ => .head _
  | _ :: as, _ :: os, h, i + 1, hi => .tail _ (TL_mem (as := as) (os := os) (by simpa using h) i (Nat.lt_of_succ_lt_succ hi))
theorem upd_pre {d : Addr} {o o' : Obj} {r r' : List (Addr × Obj)} (U : Upd d o o' r r') : ∀ {pre : List (Addr × Obj)}, (∀ p ∈ pre, p.1 ≠ d) → Upd d o o' (pre ++ r) (pre ++ r')
  | [], _ => U
  | p :: pre, h => .tail (h p (.head _)) (upd_pre U fun q hq => h q (.tail _ hq))
theorem getD_mem0 : ∀ {as : List Addr} {i : Nat}, i < as.length → as.getD i 0 ∈ as
  | _ :: _, 0, _ => .head _
  | _ :: as, i + 1, h => .tail _ (getD_mem0 (as := as) (Nat.lt_of_succ_lt_succ h))
theorem TL_upd {v : List Value} {n : List Int} {post : List (Addr × Obj)} : ∀ {as : List Addr} {os : List Row3}, as.Nodup → as.length = os.length → ∀ i, i < as.length → (∀ p ∈ post, p.1 ≠ as.getD i 0) →
    Upd (as.getD i 0) (listOf (os.getD i no3).1.toArray (os.getD i no3).2.2) (listOf v.toArray (os.getD i no3).2.2) (TL as os ++ post) (TL as (os.set i (v, n, (os.getD i no3).2.2)) ++ post)
  | [], [], _, _, _, h, _ => absurd h (Nat.not_lt_zero _)
  | a :: as, o :: os, hn, hl, 0, _, hp => by
    refine Upd.head fun p hp' => ?_
    rcases List.mem_append.mp hp' with h | h
    · intro e
      have h1 : p.1 ∈ (TL as os).map (·.1) := List.mem_map.mpr ⟨p, h, rfl⟩
      rw [TL_fst (by simpa using hl), e] at h1
      exact (List.nodup_cons.mp hn).1 h1
    · exact hp p h
  | a :: as, o :: os, hn, hl, i + 1, hi, hp => by
    have hi' : i < as.length := Nat.lt_of_succ_lt_succ hi
    refine Upd.tail (fun e => ?_) (TL_upd (as := as) (os := os) (List.nodup_cons.mp hn).2 (by simpa using hl) i hi' hp)
    exact (List.nodup_cons.mp hn).1 (by have h1 : a = as.getD i 0 := e; rw [h1]; exact getD_mem0 hi')
/-- the told rows hold g. -/
structure OsAre (mn : Nat) (os : List Row3) (g : Nat → Nat → Int) : Prop where
  four : os.length = 4
  itss : ∀ i, i < 4 → IntsAre (os.getD i no3).1 (os.getD i no3).2.1
  vals : ∀ i, i < 4 → (os.getD i no3).2.1 = (List.range mn).map (g i)
theorem map_range_congr {mn : Nat} {f g : Nat → Int} (h : ∀ j, j < mn → f j = g j) : (List.range mn).map f = (List.range mn).map g :=
  List.map_congr_left fun j hj => h j (List.mem_range.mp hj)
theorem OsAre.congr {mn : Nat} {os : List Row3} {g g' : Nat → Nat → Int} (h : OsAre mn os g) (e : ∀ i j, i < 4 → j < mn → g i j = g' i j) : OsAre mn os g' :=
  ⟨h.four, h.itss, fun i hi => by rw [h.vals i hi]; exact map_range_congr fun j hj => e i j hi hj⟩
theorem map_range_set {mn : Nat} {g : Nat → Int} {a : Nat} {v : Int} : ((List.range mn).map g).set a v = (List.range mn).map fun j => if j = a then v else g j := by
  apply List.ext_getElem
  · simp
  · intro i h1 h2
    rw [List.getElem_set]
    simp only [List.getElem_map, List.getElem_range]
    by_cases e : a = i
    · rw [if_pos e, if_pos e.symm]
    · rw [if_neg e, if_neg (fun h => e h.symm)]
theorem OsAre.set {mn : Nat} {os : List Row3} {g : Nat → Nat → Int} (h : OsAre mn os g) {i a : Nat} (hi : i < 4) {x : Int} {u : Tok} {k : Nat} :
    OsAre mn (os.set i ((os.getD i no3).1.set a (.int x u), (os.getD i no3).2.1.set a x, k)) (fun i' j => if i' = i then (if j = a then x else g i j) else g i' j) := by
  have h4 := h.four
  have key : ∀ i', (os.set i ((os.getD i no3).1.set a (Value.int x u), (os.getD i no3).2.1.set a x, k)).getD i' no3 = if i' = i then ((os.getD i no3).1.set a (Value.int x u), (os.getD i no3).2.1.set a x, k) else os.getD i' no3 :=
    fun i' => getD_set _ _ _ _ _ (by omega)
  refine ⟨by simp [h4], fun i' hi' => ?_, fun i' hi' => ?_⟩
  · rw [key]
    by_cases e : i' = i
    · rw [if_pos e]; exact ints_set (h.itss i hi) a
    · rw [if_neg e]; exact h.itss i' hi'
  · rw [key]
    by_cases e : i' = i
    · rw [if_pos e]
      show (os.getD i no3).2.1.set a x = _
      rw [h.vals i hi, map_range_set]
      exact map_range_congr fun j _ => by rw [if_pos e]
    · rw [if_neg e, h.vals i' hi']
      exact map_range_congr fun j _ => by rw [if_neg e]
theorem getD_range_map {mn : Nat} {g : Nat → Int} {a : Nat} (ha : a < mn) : ((List.range mn).map g).getD a 0 = g a := by simp [List.getD_eq_getElem?_getD, ha]
theorem nameN {h : Heap} {R : List (Addr × Obj)} (N : News h₀ L h R) : ∃ X, X = R ∧ News h₀ L h X := ⟨R, rfl, N⟩
def TJ (mn : Nat) (X : List (Addr × Obj)) (i : Nat) (ys : List Value) (nx : List (Addr × Obj)) : Prop :=
  ∃ as os, nx = X ++ TL as os ∧ as.length = i ∧ os.length = i ∧ All2 (fun v a => v = Value.ref a) ys as ∧ as.Nodup ∧ (∀ p ∈ X, ∀ a ∈ as, p.1 ≠ a) ∧ ∀ j, j < i → IntsAre (os.getD j no3).1 (os.getD j no3).2.1 ∧ (os.getD j no3).2.1 = (List.range mn).map fun _ => 0
theorem TJ.zero {mn : Nat} {X : List (Addr × Obj)} : TJ mn X 0 [] X :=
  ⟨[], [], (List.append_nil _).symm, rfl, rfl, .nil, List.nodup_nil, fun _ _ _ h => (nomatch h), fun _ h => absurd h (Nat.not_lt_zero _)⟩
theorem TJ.end {mn i : Nat} {X all : List (Addr × Obj)} {as : List Addr} {os : List Row3} {ys vs : List Value} {ns : List Int} {k tk : Nat} {a l0 I C D : Addr} {oI oC oD o0 : Obj} {S : List (Addr × Obj) → Prop} {h' : Heap} {s₁ : Shared}
    (la : as.length = i) (lo : os.length = i) (hys : All2 (fun v a => v = Value.ref a) ys as) (hnd : as.Nodup) (hX : ∀ p ∈ X, ∀ a ∈ as, p.1 ≠ a)
    (hrow : ∀ j, j < i → IntsAre (os.getD j no3).1 (os.getD j no3).2.1 ∧ (os.getD j no3).2.1 = (List.range mn).map fun _ => 0) (off : LCg.Off3 I C D (X ++ TL as os)) (hS : ∀ nw, S nw)
    (F : Fr h₀ L h' m) (N : News h₀ L h' all) (hA : AllLt a ((l0, o0) :: (I, oI) :: (C, oC) :: (D, oD) :: (X ++ TL as os))) (hsub : ∀ p ∈ (I, oI) :: (C, oC) :: (D, oD) :: (X ++ TL as os), p ∈ all) (ha : (a, listOf vs.toArray k) ∈ all)
    (hi : IntsAre vs ns) (hn : ns = (List.range mn).map fun _ => 0) :
    LCg.CompEnd h₀ L m s₁ I oI C oC D oD S (fun y nx' => TJ mn X (i + 1) (ys ++ [y]) nx') (.ref a) { s₁ with heap := h', toks := tk } := by
  have hlt : ∀ p ∈ (I, oI) :: (C, oC) :: (D, oD) :: (X ++ TL as os), p.1 ≠ a := fun p hp => Nat.ne_of_lt (kst_ltOf hA p (.tail _ hp))
  have hT : TL (as ++ [a]) (os ++ [(vs, ns, k)]) = TL as os ++ [(a, listOf vs.toArray k)] := TL_push (by omega)
  have oX := off.mem
  refine LCg.CompEnd.intro F N (X ++ TL (as ++ [a]) (os ++ [(vs, ns, k)])) (fun p hp => ?_) (LCg.Off3.of fun p hp => ?_) (hS _) ⟨as ++ [a], os ++ [(vs, ns, k)], rfl, by simp [la], by simp [lo], All2.push (R := fun v a => v = Value.ref a) rfl hys, ?_, fun p hp b hb => ?_, fun j hj => ?_⟩
  · rw [hT, ← List.append_assoc] at hp
    simp only [List.mem_cons, List.mem_append, List.not_mem_nil, or_false] at hp hsub
    rcases hp with h | h | h | h | h
    · exact hsub p (.inl h)
    · exact hsub p (.inr (.inl h))
    · exact hsub p (.inr (.inr (.inl h)))
    · exact hsub p (.inr (.inr (.inr h)))
    · rw [h]; exact ha
  · rw [hT, ← List.append_assoc] at hp
    rcases List.mem_append.mp hp with h | h
    · exact oX p h
    · rw [List.mem_singleton.mp h]
      exact ⟨fun e => hlt (I, oI) (.head _) e.symm, fun e => hlt (C, oC) (.tail _ (.head _)) e.symm, fun e => hlt (D, oD) (.tail _ (.tail _ (.head _))) e.symm⟩
  · refine List.nodup_append.mpr ⟨hnd, by simp, fun b hb c hc => ?_⟩
    rw [List.mem_singleton.mp hc]
    intro e
    have h1 : b ∈ (TL as os).map (·.1) := by rw [TL_fst (by omega)]; exact hb
    obtain ⟨q, hq, hq2⟩ := List.mem_map.mp h1
    exact hlt q (.tail _ (.tail _ (.tail _ (List.mem_append_right _ hq)))) (hq2.trans e)
  · rcases List.mem_append.mp hb with h | h
    · exact hX p hp b h
    · rw [List.mem_singleton.mp h]
      exact hlt p (.tail _ (.tail _ (.tail _ (List.mem_append_left _ hp))))
  · have e : (os ++ [(vs, ns, k)]).getD j no3 = if j = i then (vs, ns, k) else os.getD j no3 := by
      rw [List.getD_eq_getElem?_getD, List.getD_eq_getElem?_getD]
      by_cases e : j = i
      · subst e; rw [← lo]; simp
      · rw [if_neg e, List.getElem?_append_left (by omega)]
    rw [e]
    split
    · exact ⟨hi, hn⟩
    · exact hrow j (by omega)
theorem zeros (mn : Nat) : (List.replicate (mn : Int).toNat [(0 : Int)]).flatten = (List.range mn).map fun _ => 0 := by
  simp [List.map_const']
theorem off_told {lt : Addr} {X : List (Addr × Obj)} {as : List Addr} {os : List Row3} {o : Obj} (hl : as.length = os.length) (h : ∀ p ∈ X ++ TL as os, p.1 ≠ lt) (hX : ∀ p ∈ X, ∀ a ∈ as, p.1 ≠ a) : ∀ p ∈ (lt, o) :: X, ∀ a ∈ as, p.1 ≠ a := by
  intro p hp a ha
  rcases List.mem_cons.mp hp with rfl | hp
  · have h1 : a ∈ (TL as os).map (·.1) := by rw [TL_fst hl]; exact ha
    obtain ⟨q, hq, rfl⟩ := List.mem_map.mp h1
    exact fun e => h q (List.mem_append_right _ hq) e.symm
  · exact hX p hp a ha
theorem swps_len (b : Nat) : ∀ (ds : List (Int × Int × Int)) (nl : List Int), (ds.foldl (swp b) nl).length = nl.length
  | [], _ => rfl
  | d :: ds, nl => by rw [List.foldl_cons, swps_len b ds, swp_len]
def Rng4 (nl : List Int) : Prop := nl.length = 4 ∧ ∀ i, i < 4 → 0 ≤ nl.getD i 0 ∧ nl.getD i 0 < 4
theorem rng_swp {b : Nat} {nl : List Int} {d : Int × Int × Int} (h : Rng4 nl) (hv : Vd d) : Rng4 (swp b nl d) := by
  obtain ⟨h4, hr⟩ := h
  have hl : d.1.toNat < 4 := by have := hv.1; omega
  have hrr : d.2.1.toNat < 4 := by have := hv.2; omega
  refine ⟨by rw [swp_len]; exact h4, fun i hi => ?_⟩
  unfold swp
  split
  · rw [getD_set _ _ _ _ _ (by rw [List.length_set, h4]; exact hrr), getD_set _ _ _ _ _ (by rw [h4]; exact hl)]
    split
    · exact hr _ hl
    split
    · exact hr _ hrr
    exact hr i hi
  · exact hr i hi
theorem rng_swps {b : Nat} : ∀ {ds : List (Int × Int × Int)} {nl : List Int}, Rng4 nl → (∀ d ∈ ds, Vd d) → Rng4 (ds.foldl (swp b) nl)
  | [], _, h, _ => h
  | d :: ds, nl, h, hv => rng_swps (ds := ds) (nl := swp b nl d) (rng_swp h (hv d (.head _))) fun e he => hv e (.tail _ he)
theorem rng_0123 : Rng4 [0, 1, 2, 3] := by
  refine ⟨rfl, fun i hi => ?_⟩
  have : i = 0 ∨ i = 1 ∨ i = 2 ∨ i = 3 := by omega
  rcases this with rfl | rfl | rfl | rfl <;> decide
theorem offLt {Y : List (Addr × Obj)} {a : Addr} (h : AllLt a Y) : OwnOff Y [a] := fun p hp b hb => by
  rw [List.mem_singleton.mp hb]; exact Nat.ne_of_lt (kst_ltOf h p hp)
theorem permN {h : Heap} {q : Addr × Obj} {X T O : List (Addr × Obj)} (N : News h₀ L h (q :: ((X ++ T) ++ O))) : News h₀ L h ((q :: (X ++ O)) ++ T) := fun p hp => N p (by
  simp only [List.mem_cons, List.mem_append, List.cons_append] at hp ⊢
  rcases hp with h | (h | h) | h <;> simp [h])
theorem permN2 {h : Heap} {X T O : List (Addr × Obj)} (N : News h₀ L h ((X ++ T) ++ O)) : News h₀ L h ((X ++ O) ++ T) := fun p hp => N p (by
  simp only [List.mem_append] at hp ⊢
  rcases hp with (h | h) | h <;> simp [h])
theorem asIn {Z : List (Addr × Obj)} {as : List Addr} {os : List Row3} (hl : as.length = os.length) {a : Addr} (ha : a ∈ as) : a ∈ (Z ++ TL as os).map (·.1) := by
  rw [List.map_append, TL_fst hl]; exact List.mem_append_right _ ha
theorem ledFst {Z : List (Addr × Obj)} {as : List Addr} {os os' : List Row3} (hl : as.length = os.length) (hl' : as.length = os'.length) : (Z ++ TL as os').map (·.1) = (Z ++ TL as os).map (·.1) := by
  rw [List.map_append, List.map_append, TL_fst hl, TL_fst hl']
theorem offMore {X own : List (Addr × Obj)} {as : List Addr} {os : List Row3} {Z : List (Addr × Obj)} (hl : as.length = os.length) (hX : ∀ p ∈ X, ∀ a ∈ as, p.1 ≠ a) (ho : OwnOff own ((Z ++ TL as os).map (·.1))) : ∀ p ∈ X ++ own, ∀ a ∈ as, p.1 ≠ a := fun p hp a ha =>
  (List.mem_append.mp hp).elim (fun h => hX p h a ha) fun h => ho p h a (asIn hl ha)
theorem offName {q : Addr × Obj} {X Y Z O : List (Addr × Obj)} {as : List Addr} {os : List Row3} (hl : as.length = os.length) (hX : ∀ p ∈ X, ∀ a ∈ as, p.1 ≠ a) (hY : AllLt q.1 Y) (eY : Y = Z ++ TL as os ++ O) : ∀ p ∈ q :: X, ∀ a ∈ as, p.1 ≠ a := by
  intro p hp a ha
  rcases List.mem_cons.mp hp with rfl | hp
  · have h1 : a ∈ (TL as os).map (·.1) := by rw [TL_fst hl]; exact ha
    obtain ⟨r, hr, rfl⟩ := List.mem_map.mp h1
    have h2 := kst_ltOf hY r (by rw [eY]; exact List.mem_append_left _ (List.mem_append_right _ hr))
    exact fun e => absurd h2 (by rw [← e]; exact Nat.lt_irrefl _)
  · exact hX p hp a ha
theorem sub_refs {D : Addr} {vs : List Value} {n : Nat} {k : Int} {u : Tok} {E : Value → Shared → Prop} {news : List (Addr × Obj)} {as : List Addr} {value slice : PySem.Expr} {Q : Value → Shared → Prop} (N : News h₀ L s.heap news) (hm : (D, listOf vs.toArray n) ∈ news) (hi : All2 (fun v a => v = Value.ref a) vs as) (h0 : 0 ≤ k) (h1 : k < (as.length : Int)) (hfit : k < 1000)
    (h : Q (.ref (as.getD k.toNat 0)) s)
    (hs : subscripted slice false (.ref D) (.int k u) = operate [.ref D, .int k u] (getItem (.ref D) (.int k u)) := by with_unfolding_all rfl) :
    wpAny (model prog w) A (subscriptTail value slice (.ref D) (.int k u)) Q E s :=
  sub_all2 0 N hm hi h0 h1 hfit (fun v e => by rw [e]; exact h) hs
theorem headOf {α : Type} {R r : List α} {q : α} (e : R = q :: r) : q ∈ R := by rw [e]; exact .head _
theorem castN {h : Heap} {R R' : List (Addr × Obj)} (N : News h₀ L h R) (e : R' = R) : News h₀ L h R' := by rw [e]; exact N
theorem subN {h : Heap} {R R' : List (Addr × Obj)} (N : News h₀ L h R) (e : ∀ p ∈ R', p ∈ R) : News h₀ L h R' := fun p hp => N p (e p hp)
theorem make_L {D : Addr} {vs : List Value} {ns : List Int} {n : Nat} {news : List (Addr × Obj)} {E Q : Value → Shared → Prop} (F : Fr h₀ L s.heap m) (N : News h₀ L s.heap news) (hh : A.handled = none) (hm : (D, listOf vs.toArray n) ∈ news) (hi : IntsAre vs ns) (hr : KBa.In ns) (hn : ns.length < 1000)
    (h : ∀ h' t' k, Fr h₀ L h' m → News h₀ L h' news → Q (.bytes (byteArr ns) t') { s with heap := h', toks := k }) : wpAny (model prog w) A (call (.type "bytes") [.ref D]) Q E s :=
  KBa.make_K F N hh (PySem.IsL.isList (n := n) (N _ hm).1) hi hr (by omega) fun h' t' k F N _ => h h' t' k F N
theorem All2.reverse {α β : Type} {R : α → β → Prop} : ∀ {as : List α} {bs : List β}, All2 R as bs → All2 R as.reverse bs.reverse
  | _, _, .nil => .nil
  | _, _, .cons r t => by
    rw [List.reverse_cons, List.reverse_cons]
    exact All2.push r t.reverse
def rowV (mn : Nat) (rs : List (List Int)) (ds : List (Int × Int × Int)) (i : Nat) : List Int := (List.range mn).map fun a => bsum (toldV rs ds i a) 8
theorem rowV_in (mn : Nat) (rs : List (List Int)) (ds : List (Int × Int × Int)) (i : Nat) : KBa.In (rowV mn rs ds i) := by
  intro x hx
  obtain ⟨a, _, rfl⟩ := List.mem_map.mp hx
  exact bsum_in fun b => bt_01 _ _
theorem rowV_all {mn : Nat} {rs : List (List Int)} {ds : List (Int × Int × Int)} (h : Ok mn rs) (hv : ∀ d ∈ ds, Vd d) : (List.range 4).map (rowV mn rs ds) = ds.foldl chg rs := by
  refine ext4 (d := []) (by simp) (h.chgs hv).four fun i hi => ?_
  rw [told4 h hv hi]
  have e : ((List.range 4).map (rowV mn rs ds)).getD i [] = rowV mn rs ds i := by simp [List.getD_eq_getElem?_getD, hi]
  rw [e]; rfl
theorem at_end {Z own : List (Addr × Obj)} {as : List Addr} {os3 os0 : List Row3} {o3 : Row3} {i tk : Nat} {J : List Row3 → Prop} {m₀ m' : Str → Option Value} {x : Str} {stored : List Str} {h' : Heap} {s₁ : Shared}
    (F : Fr h₀ L h' m') (N : News h₀ L h' ((Z ++ TL as (os3.set i o3)) ++ own)) (hJ : J (os3.set i o3)) (hr : ∀ z, z ≠ x → stored.contains z = false → m' z = m₀ z) (l : as.length = os0.length) (l' : as.length = os3.length) :
    InvEndN h₀ L (RS (fun o => Z ++ TL as o) (fun _ => []) x stored m₀ J) own ((Z ++ TL as os0).map (·.1)) s₁ { s₁ with heap := h', toks := tk } :=
  rs_end (os3.set i o3) F N hJ (fun _ h => nomatch h) (fun z g1 _ g3 => hr z g1 g3) (ledFst l (by rw [List.length_set]; exact l')) (fun _ hp => List.mem_append_left _ hp) (fun _ hp => List.mem_append_right _ hp)
end
end Mine

namespace Mine
local macro_rules | `(tactic| walk_at "my step") => `(tactic| (fail_if_success (with_reducible show InvEndN _ _ _ _ _ _ _)); (fail_if_success (with_reducible show InvEndG _ _ _ _ _ _)); (fail_if_success (with_reducible show LCg.CompRest _ _ _ _ _ _ _ _ _ _ _ _ _ _ _ _ _ _ _)); (fail_if_success (with_reducible show LCg.CompEnd _ _ _ _ _ _ _ _ _ _ _ _ _ _)); first | (k_unfold; (try dsimp only)) | ((fail_if_success (with_reducible show wpAny _ _ (pyIter (Value.ref _)) _ _ _)); first | (k_end; wrow_close) | walk1 | (dsimp only; walk1) | (leave1; walk_say "STEP leave1"; try dsimp only)) | fail "no step")
local macro_rules | `(tactic| walk_at "my steps") => `(tactic| repeat' (walk_at "my step"))
local macro_rules | `(tactic| walk_at "call ref") => `(tactic| (k_here; k_dflt (refine' pick_v ?k1 ?k2 ?k3 ?k4 ?k5 ?k6 ?k7 ?k8 ?k9 ?k10 ?k11 ?k12 ?k13 ?_; (case k1 => k_asm); (case k2 => k_asm); (case k3 => k_asm); (case k4 => k_asm); (case k5 => k_asm); (case k6 => first | exact rfl | assumption); (case k7 => k_asm); (case k8 => l_ints); (case k9 => l_fit); (case k10 => (refine ⟨?_, ?_, ?_, ?_⟩ <;> omega)); (case k11 => ktr_room); (case k12 => ktr_units); (case k13 => first | assumption | exact rfl); intro _ _ _ F' N')))
local macro_rules | `(tactic| walk_at "call ref") => `(tactic| (k_here; k_dflt (refine' row_r ?k1 ?k2 ?k3 ?k4 ?k5 ?k6 ?k7 ?k8 ?k9 ?k10 ?k11 ?k12 ?_; (case k1 => k_asm); (case k2 => k_asm); (case k3 => k_asm); (case k4 => k_asm); (case k5 => k_asm); (case k6 => first | exact rfl | assumption); (case k7 => k_asm); (case k8 => l_ints); (case k9 => l_fit); (case k10 => (refine ⟨?_, ?_, ?_⟩ <;> omega)); (case k11 => ktr_room); (case k12 => ktr_units); intro _ _ _ _ _ _ F' N' hi' hin' hlen' hof'; (try simp only [List.cons_append, List.nil_append, List.forall_mem_cons] at hof'))))

local macro_rules | `(tactic| walk_at "call ref") => `(tactic| (k_here; k_dflt (refine' sel_r ?k1 ?k2 ?k3 ?k4 ?k5 ?k6 ?k7 ?k8 ?k9 ?k9' ?kc ?k11 ?k12 ?_ ?_; (case k1 => k_asm); (case k2 => k_asm); (case k3 => k_asm); (case k4 => k_asm); (case k5 => k_asm); (case k6 => first | exact rfl | assumption); (case k7 => assumption); (case k8 => assumption); (case k9 => omega); (case k9' => omega); (case kc => assumption); (case k11 => ktr_room); (case k12 => ktr_units)); (intro hl' _ _ _ F' N'); rotate_left; (intro hl' g' _ _ _ FG' R' U'); rotate_right))
local macro_rules | `(tactic| walk_at "call ref") => `(tactic| (k_here; k_dflt (refine' chg_r ?k1 ?k2 ?k3 ?k4 ?k5 ?k6 ?k7 ?k8 ?k9 ?kb ?ko ?kn ?kr ?k11 ?k12 ?_; (case k1 => k_asm); (case k2 => k_asm); (case k3 => k_asm); (case k4 => k_asm); (case k5 => k_asm); (case k6 => first | exact rfl | assumption); (case k7 => assumption); (case k8 => assumption); (case k9 => assumption); (case kb => assumption); (case ko => assumption); (case kn => omega); (case kr => assumption); (case k11 => ktr_room); (case k12 => ktr_units); intro rv' _ _ F' N' hb')))
local macro_rules | `(tactic| walk_at "call type:range") => `(tactic| (k_here; (rename Fr _ _ _ _ => F'); (rename News _ _ _ _ => N'); first
  | (with_unfolding_all refine range1_rows F' N' ?_; intro _ _ _ _ _ _ _ _ _)
  | (with_unfolding_all refine range2_rows F' N' ?_; intro _ _ _ _ _ _ _ _ _)))

local macro_rules | `(tactic| walk_at "my all2") => `(tactic| first | assumption | exact All2.push ⟨_, rfl⟩ (by assumption))
local macro_rules | `(tactic| walk_at "my idx") => `(tactic| ((try simp only [List.length_append, List.length_cons, List.length_nil, List.length_set]); omega))
local macro_rules | `(tactic| walk_at "call builtin:list.append") => `(tactic| (k_here; (with_reducible show wpAny _ _ (call (Value.builtin _) [Value.ref _, _]) _ _ _); k_dflt (refine' append_L ?k1 ?k2 ?k3 ?z ?_; (case k1 => k_asm); (case k2 => k_asm); (case k3 => k_upd); (case z => walk_at "my idx")); intro h' F' N'))
local macro_rules | `(tactic| walk_at "setItem ref int") => `(tactic| (k_here; (with_reducible show wpAny _ _ (setItem (Value.ref _) (Value.int _ _) (Value.bytes _ _)) _ _ _); k_dflt (refine' set_L ?k1 ?k2 ?k3 ?k4 ?k5 ?k6 ?_; (case k1 => k_asm); (case k2 => k_asm); (case k3 => k_upd); (case k4 => walk_at "my idx"); (case k5 => walk_at "my idx"); (case k6 => walk_at "my idx")); intro h' F' N'))
local macro_rules | `(tactic| walk_at "binaryOp Add bytes bytes") => `(tactic| (k_here; k_dflt (refine' add_B (ys := [255]) ?z ?a in_255 ?_; (case a => assumption); (case z => walk_at "my idx")); intro _ _))
local macro_rules | `(tactic| walk_at "subscriptTail") => `(tactic| (k_here; (with_reducible show wpAny _ _ (subscriptTail _ _ (Value.ref _) (Value.int _ _)) _ _ _); k_dflt (refine' sub_bytes ?k1 ?k2 ?k3 ?k4 ?k5 ?k6 ?_ ?k7; (case k1 => k_asm); (case k2 => k_mem); (case k3 => walk_at "my all2"); (case k4 => walk_at "my idx"); (case k5 => walk_at "my idx"); (case k6 => walk_at "my idx"); (case k7 => with_unfolding_all rfl)); intro _))
local macro_rules | `(tactic| walk_at "subscriptTail") => `(tactic| (k_here; (with_reducible show wpAny _ _ (subscriptTail _ _ (Value.ref _) (Value.int _ _)) _ _ _); k_dflt (refine' sub_conds ?k1 ?k2 ?k3 ?k4 ?k5 ?k6 ?_ ?k7; (case k1 => k_asm); (case k2 => k_mem); (case k3 => walk_at "my all2"); (case k4 => walk_at "my idx"); (case k5 => walk_at "my idx"); (case k6 => walk_at "my idx"); (case k7 => with_unfolding_all rfl)); intro _ hcv'))
local macro_rules | `(tactic| walk_at "subscriptTail") => `(tactic| (k_here; (with_reducible show wpAny _ _ (subscriptTail _ _ (Value.ref _) (Value.int _ _)) _ _ _); k_dflt (refine' sub_last ?k1 ?k2 ?k4 ?k5 ?_ ?k7; (case k1 => k_asm); (case k2 => k_mem); (case k4 => walk_at "my idx"); (case k5 => walk_at "my idx"); (case k7 => with_unfolding_all rfl))))


local macro_rules | `(tactic| walk_at "exec Assign cons ListComp") => `(tactic| (k_here; k_dflt (refine LCg.Assign_ListComp_U (F₀ := by k_asm) (by rfl) (by with_unfolding_all rfl) (by with_unfolding_all rfl) (by decide) (by rfl) (by decide) (by rfl) (by rfl) (by rfl) ?_)))
local macro_rules | `(tactic| walk_at "eval ListComp") => `(tactic| (k_here; k_dflt (refine LCg.ListComp_U (F₀ := by k_asm) (by with_unfolding_all rfl) (by decide) (by rfl) (by decide) (by rfl) ?_)))
local macro_rules | `(tactic| walk_at "CompSrc") => `(tactic| (k_here; k_dflt (first
  | (refine LCg.CompSrc.ledger (by rfl) (by k_asm) (by k_asm) (by k_mem) (by (rw [List.size_toArray, sizeLine_eq]; omega)) ?_; intro g')
  | (refine LCg.CompSrc.range (by rfl) (by k_asm) (by k_asm) (by assumption) (by first | decide | rfl) (by first | rfl | decide) (by exact Nat.le_of_ble_eq_true rfl) ?_; intro g'))))

theorem getD_push {α : Type} (l : List α) (x d : α) {j i : Nat} (hl : l.length = i) (hj : j < i + 1) : (l ++ [x]).getD j d = if j = i then x else l.getD j d := by
  rw [List.getD_eq_getElem?_getD, List.getD_eq_getElem?_getD]
  by_cases e : j = i
  · subst e; subst hl; simp
  · rw [if_neg e, List.getElem?_append_left (by omega)]

local macro_rules | `(tactic| walk_at "assign Tuple") => `(tactic| (k_here; (with_reducible show wpAny _ _ (assign (Expr.Tuple _ _ _) _ (Value.ref _)) _ _ _); k_dflt (refine' my_unpack ?F ?N ?m ?k1 ?k2 ?k3 ?_; (case F => k_asm); (case N => k_asm); (case m => assumption); (case k1 => exact rfl); (case k2 => exact rfl); (case k3 => exact rfl)); intro h' F' N'))
local macro_rules | `(tactic| walk_at "exec For Name Name cons nil") => `(tactic| (k_here; (rename Fr _ _ _ _ => lF'); k_dflt (refine' For_turns lF' ?_)))
local macro_rules | `(tactic| walk_at "exec For Tuple Name cons nil") => `(tactic| (k_here; (rename Fr _ _ _ _ => lF'); k_dflt (refine' For_turns lF' ?_)))
local macro_rules | `(tactic| walk_at "exec For Name Call cons nil") => `(tactic| (k_here; (with_reducible show wpAny _ _ (exec (Stmt.For _ (Expr.Call (Expr.Name (Str.ofString "reversed") _) _ _ _) _ _ _) _) _ _ _); (rename Fr _ _ _ _ => lF'); k_dflt (refine' For_turns lF' ?_)))

local macro_rules | `(tactic| walk_at "subscriptTail") => `(tactic| (k_here; (with_reducible show wpAny _ _ (subscriptTail _ _ (Value.ref _) (Value.int _ _)) _ _ _); k_dflt (refine' sub_refs ?k1 ?k2 ?k3 ?k4 ?k5 ?k6 ?_ ?k7; (case k1 => k_asm); (case k2 => assumption); (case k3 => assumption); (case k4 => walk_at "my idx"); (case k5 => walk_at "my idx"); (case k6 => walk_at "my idx"); (case k7 => with_unfolding_all rfl))))
local macro_rules | `(tactic| walk_at "subscriptTail") => `(tactic| (k_here; (with_reducible show wpAny _ _ (subscriptTail _ _ (Value.ref _) (Value.int _ _)) _ _ _); k_dflt (refine' sub_bytes ?k1 ?k2 ?k3 ?k4 ?k5 ?k6 ?_ ?k7; (case k1 => k_asm); (case k2 => assumption); (case k3 => assumption); (case k4 => walk_at "my idx"); (case k5 => walk_at "my idx"); (case k6 => walk_at "my idx"); (case k7 => with_unfolding_all rfl)); intro _))
local macro_rules | `(tactic| walk_at "subscriptTail") => `(tactic| (k_here; (with_reducible show wpAny _ _ (subscriptTail _ _ (Value.ref _) (Value.int _ _)) _ _ _); k_dflt (refine' ksa_sub ?k1 ?k2 ?k3 ?k4 ?k5 ?k6 ?_ ?k7; (case k1 => k_asm); (case k2 => assumption); (case k3 => assumption); (case k4 => walk_at "my idx"); (case k5 => walk_at "my idx"); (case k6 => walk_at "my idx"); (case k7 => with_unfolding_all rfl)); intro _))
local macro_rules | `(tactic| walk_at "getItem ref int") => `(tactic| (k_here; (with_reducible show wpAny _ _ (getItem (Value.ref _) (Value.int _ _)) _ _ _); k_dflt (refine' ksa_get ?k1 ?k2 ?k3 ?k4 ?k5 ?k6 ?_; (case k1 => k_asm); (case k2 => assumption); (case k3 => assumption); (case k4 => walk_at "my idx"); (case k5 => walk_at "my idx"); (case k6 => walk_at "my idx")); intro _))
local macro_rules | `(tactic| walk_at "setItem ref int") => `(tactic| (k_here; (with_reducible show wpAny _ _ (setItem (Value.ref _) (Value.int _ _) (Value.int _ _)) _ _ _); (rename ∀ (_ : Int) (_ : Tok), Upd _ _ _ _ _ => hU9); k_dflt (refine' ksa_set ?k1 ?k2 (hU9 _ _) ?k4 ?k5 ?k6 ?k7 ?_; (case k1 => k_asm); (case k2 => k_asm); (case k4 => assumption); (case k5 => walk_at "my idx"); (case k6 => walk_at "my idx"); (case k7 => walk_at "my idx")); intro h' F' N' hi' hl' hs'))

local macro_rules | `(tactic| walk_at "call type:bytes") => `(tactic| (k_here; (with_reducible show wpAny _ _ (call (Value.type _) [Value.ref _]) _ _ _); k_dflt (refine' make_L ?F ?N ?h ?m ?i ?r ?z ?_; (case F => k_asm); (case N => k_asm); (case h => rfl); (case m => assumption); (case i => assumption); (case r => assumption); (case z => omega)); intro _ _ _ F' N'))
local macro_rules | `(tactic| walk_at "compareOp NotEq ref ref") => `(tactic| (k_here; (with_reducible show wpAny _ _ (compareOp CmpOp.NotEq (Value.ref _) (Value.ref _)) _ _ _); k_dflt (refine' ne_rows ?N ?a ?b ?x ?y ?u ?_; (case N => k_asm); (case a => k_mem); (case b => k_mem); (case x => assumption); (case y => assumption); (case u => ke_room))))
local macro_rules | `(tactic| walk_at "compareOp Eq ref ref") => `(tactic| (k_here; (with_reducible show wpAny _ _ (compareOp CmpOp.Eq (Value.ref _) (Value.ref _)) _ _ _); k_dflt (refine' eq_rows ?N ?a ?b ?x ?y ?u ?_; (case N => k_asm); (case a => k_mem); (case b => k_mem); (case x => assumption); (case y => assumption); (case u => ke_room))))

theorem T2 : PySem.Challenge.rw_yd0001_02.Holds := Mine.hd (by
  k_go0
  have hMk9 : KstMark := kstMark
  rename IntsAre _ _ => hI
  rename List Int => ns
  obtain ⟨mn, hM, hmn⟩ := pick_nat ns 0 8 (by decide)
  obtain ⟨tn, hT, htn⟩ := pick_nat ns 1 10 (by decide)
  walk_at "my steps"
  rename_i ls _ _ _ _ _ _ _ _ _ _ hR F1 N1 _
  refine' stp _ ["spot", "cond"] rfl hR rfl (by omega) F1 N1 ?_ ?_
  · intro i vs ds nn tl t u h tk own hlt ho ho2 ht hst hl F2 N2
    have lvs := hst.length
    walk_at "my steps"
    all_goals (
      refine' stp_end (by assumption) (by assumption) (.tail _ (.head _)) (.head _) (fun p hp => .tail _ (.tail _ hp)) (by assumption) ho ho2 ht hst hl ?hc (pick_in (by decide)) (pick_in (by decide)) ?hr
      case hc => first | exact CondIs.int _ _ | exact CondIs.bool _
      case hr => (intro z g1 g3; (simp only [List.contains_cons, List.contains_nil, Bool.or_false, Bool.or_eq_false_iff, beq_eq_false_iff_ne] at g3); simp [g1, g3]))
  · intro vs ds nn tl u h tk ht hst hl F2 N2
    have lvs := hst.length
    walk_at "my steps"
    refine' compN (n := 4) (fun i ys nx => nx = _ ∧ ∃ rs, BytesAre ys rs ∧ rs.length = i ∧ (∀ j, j < i → (rs.getD j []).length = mn) ∧ ∀ j, j < i → KBa.In (rs.getD j [])) ⟨rfl, [], .nil, rfl, fun _ h => absurd h (Nat.not_lt_zero _), fun _ h => absurd h (Nat.not_lt_zero _)⟩ ?_ ?_
    · rintro i ys _ v I oI C oC D m₂ h3 tk3 E' hlt ⟨rfl, rs, hb, hl4, hj1, hj2⟩ ⟨t3, rfl⟩ hC hx F3 N3 off ne
      have hp1 : (0 : Int) ≤ (mn : Int) * (0 + (i : Int)) := Int.mul_nonneg (by omega) (by omega)
      have hp2 : (mn : Int) * (0 + (i : Int)) ≤ 7 * 3 := Int.mul_le_mul (by omega) (by omega) (by omega) (by omega)
      walk_at "my steps"
      rename List Int => row
      have hrl : row.length = mn := by assumption
      have hri : KBa.In row := by assumption
      refine LCg.CompEnd.intro (by assumption) (by assumption) _ (fun p hp => .tail _ hp) off trivial ⟨rfl, rs ++ [row], All2.push ⟨_, rfl⟩ hb, by simp [hl4], fun j hj => ?_, fun j hj => ?_⟩
      · rw [getD_push _ _ _ hl4 hj]; split
        · exact hrl
        · exact hj1 j (by omega)
      · rw [getD_push _ _ _ hl4 hj]; split
        · exact hri
        · exact hj2 j (by omega)
    · rintro ys _ ⟨rfl, rs, hb, hl4, hj1, hj2⟩
      have lys := All2.length hb
      have hok : Ok mn rs := ⟨hl4, hj1, hj2⟩
      walk_at "my steps"
      refine' compN (n := ys.toArray.size) (fun i zs nx => nx = _ ∧ zs = ys.take i) ⟨rfl, rfl⟩ ?_ ?_
      · rintro i zs _ v I oI C oC D m₂ h3 tk3 E' hlt ⟨rfl, ez⟩ hP hC hx F3 N3 off ne
        have hP' : ys[i]? = some v := by simpa using hP
        walk_at "my steps"
        refine LCg.CompEnd.intro (by assumption) (by assumption) _ (fun p hp => hp) off (.inr ⟨_, .head _, rfl, _, rfl⟩) ⟨rfl, ?_⟩
        rw [ez, List.take_add_one, hP']; rfl
      · rintro zs _ ⟨rfl, ez⟩
        have ez' : zs = ys := by rw [ez]; simp
        subst ez'
        walk_at "my steps"
        rename_i lr _ _ F5 N5 o5
        obtain ⟨R, eR, N6⟩ := splitN N5
        have hR : ∀ p ∈ R, p.1 ≠ lr := by rw [eR]; exact offOf _ o5
        have hvds := stepsVd hst
        have hS : (ls, listOf vs.toArray nn) ∈ R := by rw [eR]; exact .tail _ (.head _)
        have hTl : ∀ p ∈ tl, p ∈ R := by rw [eR]; exact fun p hp => .tail _ (.tail _ (.tail _ (.tail _ (.tail _ hp))))
        refine' lstT (σ := List Value × List (List Int)) (n := nn) (xs := vs) (adr := lr :: R.map (·.1)) (fun c => (lr, listOf c.1.toArray zs.length) :: R) (fun _ => []) ["step"] (fun k c => BytesAre c.1 c.2 ∧ c.2 = (ds.take k).foldl chg rs) (zs, rs) rfl F5 N6 (fun _ => rfl) (fun _ => .tail _ hS) ⟨hb, rfl⟩ (fun _ h => nomatch h) ?_ ?_
        · rintro i ⟨rv, rs'⟩ v u h tk own hv ho ⟨hb', er⟩ F7 N7
          dsimp only [kstB] at F7 N7 er
          obtain ⟨d, hd, T, n, t1, t2, cv, rfl, hmT, hc, hL, hRr⟩ := hst.at hv
          have hvd : Vd d := ⟨hL, hRr⟩
          have hvs : ∀ e ∈ ds.take i, Vd e := fun e he => hvds e (List.mem_of_mem_take he)
          have hok' : Ok mn rs' := by rw [er]; exact hok.chgs hvs
          have hm7 : (T, tupO [.int d.1 t1, .int d.2.1 t2, cv] n) ∈ R ++ own := List.mem_append_left _ (hTl _ hmT)
          have hkr : ∀ p ∈ R ++ own, p.1 ≠ lr := fun p hp => (List.mem_append.mp hp).elim (hR p) fun h => ho p h lr (.head _)
          rw [List.cons_append] at N7
          walk_at "my steps"
          refine' rt_end (_, chg rs' d) (by assumption) (by assumption) ⟨by assumption, ?_⟩ (fun _ h => nomatch h) ?_ rfl ?gn (fun p hp => .tail _ (List.mem_append_right _ hp))
          case gn =>
            intro p hp
            rcases List.mem_cons.mp hp with rfl | h
            · exact .head _
            · exact .tail _ (List.mem_append_left _ h)
          · show chg rs' d = _
            rw [er, take_fold hd]
          · intro z _ g3
            simp only [List.contains_cons, List.contains_nil, Bool.or_false, beq_eq_false_iff_ne] at g3
            simp [g3]
        · rintro ⟨rv, rs'⟩ u h tk ⟨hb', er⟩ F7 N7
          dsimp only [kstB] at F7 N7 er
          rw [eR] at N7
          walk_at "my steps"
          rename News _ _ _ _ => N8
          obtain ⟨X, eX, _⟩ := nameN N8
          rw [← eX]
          refine' compN (n := 4) (TJ mn X) TJ.zero ?_ ?_
          · rintro i ys nx v I oI C oC D m₂ h3 tk3 E' hlt ⟨as, os, rfl, la, lo, hys, hnd, hX, hrow⟩ ⟨t3, rfl⟩ hC hx F3 N3 off ne
            rw [eX] at N3
            simp only [List.cons_append] at N3
            walk_at "my steps"
            refine' TJ.end (o0 := oI) la lo hys hnd hX hrow off (fun _ => trivial) (by assumption) (by assumption) ?hA ?hsub (.head _) (by assumption) (zeros mn)
            case hA => (rw [eX]; assumption)
            case hsub => (intro p hp; rw [eX] at hp; exact .tail _ (.tail _ hp))
          · rintro ys _ ⟨as, os, rfl, la, lo, hys, hnd, hX, hrow⟩
            have hos : OsAre mn os (fun _ _ => 0) := ⟨lo, fun i hi => (hrow i hi).1, fun i hi => (hrow i hi).2⟩
            walk_at "my steps"
            rename_i lt _ _ _ _ oT _ _ _ _ _ hR8 F8 N8 _
            have hltX := offOf _ oT
            have hX2 := off_told (o := LCg.lst ys) (by omega) hltX hX
            refine' rngS (σ := List Row3) (fun os => ((lt, LCg.lst ys) :: X) ++ TL as os) (fun _ => []) ["names", "left", "right", "cond", "mask", "kept", "i", "at"] (fun b os => OsAre mn os (fun i j => bsum (toldV rs ds i j) b)) os rfl hR8 (n := 8) ⟨by decide, by omega⟩ (by omega) F8 N8 hos (fun _ h => nomatch h) ?_ ?_
            · rintro b os1 t8 u8 h8 tk8 own8 hlt8 hoff8 hos1 F9 N9
              dsimp only [kstB] at F9 N9
              rw [eX] at N9
              simp only [List.cons_append] at N9
              walk_at "my steps"
              rename_i lnm _ _ _ l1n _ F10 N10
              obtain ⟨Y, eY, N11⟩ := splitN N10
              have hXR : X = (lr, listOf rv.toArray zs.length) :: R := by rw [eX, eR]
              have eY2 : Y = ((lt, LCg.lst ys) :: X) ++ TL as os1 ++ own8 := by rw [eY, eX]; rfl
              have hYlt : AllLt lnm Y := by rw [eY]; exact l1n
              have hYo := offLt hYlt
              have hSY : (ls, listOf vs.toArray nn) ∈ Y := by rw [eY2, hXR]; exact List.mem_append_left _ (List.mem_append_left _ (.tail _ (.tail _ hS)))
              have hTY : ∀ p ∈ tl, p ∈ Y := fun p hp => by rw [eY2, hXR]; exact List.mem_append_left _ (List.mem_append_left _ (.tail _ (.tail _ (hTl p hp))))
              refine' lstT (σ := List Value × List Int) (n := nn) (xs := vs) (adr := lnm :: Y.map (·.1)) (fun c => (lnm, listOf c.1.toArray 0) :: Y) (fun _ => []) ["left", "right", "cond", "mask", "kept"] (fun k c => IntsAre c.1 c.2 ∧ c.2 = (ds.take k).foldl (swp b) [0, 1, 2, 3]) (_, [0, 1, 2, 3]) rfl F10 N11 (fun _ => rfl) (fun _ => .tail _ hSY) ⟨.cons _ _ (.cons _ _ (.cons _ _ (.cons _ _ .nil))), rfl⟩ (fun _ h => nomatch h) ?_ ?_
              · rintro k ⟨nv, nl⟩ v u2 h2 tk2 own2 hv ho2 ⟨hnv, enl⟩ F12 N12
                dsimp only [kstB] at F12 N12 enl
                obtain ⟨d, hd, T, n, t1, t2, cv, rfl, hmT, hc, hL, hRr⟩ := hst.at hv
                have hvs : ∀ e ∈ ds.take k, Vd e := fun e he => hvds e (List.mem_of_mem_take he)
                have hr4 : Rng4 nl := by rw [enl]; exact rng_swps rng_0123 hvs
                have hn4 := hr4.1
                rw [List.cons_append] at N12
                obtain ⟨l, r, c⟩ := d
                dsimp only at hmT hc hL hRr
                obtain ⟨hL1, hL2⟩ := hL
                obtain ⟨hR1, hR2⟩ := hRr
                have hm7 : (T, tupO [.int l t1, .int r t2, cv] n) ∈ (lnm, listOf nv.toArray 0) :: (Y ++ own2) := .tail _ (List.mem_append_left _ (hTY _ hmT))
                rcases condIs hc with ⟨tc, rfl⟩ | ⟨bb, rfl, rfl⟩
                · walk_at "my steps"
                  · rename Int.fmod _ _ = 1 => hb1
                    rw [bt_f] at hb1
                    refine' rt_end (_, (nl.set l.toNat (nl.getD r.toNat 0)).set r.toNat (nl.getD l.toNat 0)) (by assumption) (by assumption) ⟨by assumption, ?_⟩ (fun _ h => nomatch h) ?_ rfl ?gn (fun p hp => .tail _ (List.mem_append_right _ hp))
                    case gn =>
                      intro p hp
                      rcases List.mem_cons.mp hp with rfl | h
                      · exact .head _
                      · exact .tail _ (List.mem_append_left _ h)
                    · rw [take_fold hd, ← enl]; exact (if_pos hb1).symm
                    · intro z _ g3
                      simp only [List.contains_cons, List.contains_nil, Bool.or_false, Bool.or_eq_false_iff, beq_eq_false_iff_ne] at g3
                      simp [g3]
                  · rename Int.fmod _ _ ≠ 1 => hb1
                    rw [bt_f] at hb1
                    refine' rt_end (nv, nl) (by assumption) (by assumption) ⟨hnv, ?_⟩ (fun _ h => nomatch h) ?_ rfl ?gn (fun p hp => .tail _ (List.mem_append_right _ hp))
                    case gn =>
                      intro p hp
                      rcases List.mem_cons.mp hp with rfl | h
                      · exact .head _
                      · exact .tail _ (List.mem_append_left _ h)
                    · rw [take_fold hd, ← enl]; exact (if_neg hb1).symm
                    · intro z _ g3
                      simp only [List.contains_cons, List.contains_nil, Bool.or_false, Bool.or_eq_false_iff, beq_eq_false_iff_ne] at g3
                      simp [g3]
                · walk_at "my steps"
                  · rename Int.fmod _ _ = 1 => hb1
                    rw [bt_f] at hb1
                    refine' rt_end (_, (nl.set l.toNat (nl.getD r.toNat 0)).set r.toNat (nl.getD l.toNat 0)) (by assumption) (by assumption) ⟨by assumption, ?_⟩ (fun _ h => nomatch h) ?_ rfl ?gn (fun p hp => .tail _ (List.mem_append_right _ hp))
                    case gn =>
                      intro p hp
                      rcases List.mem_cons.mp hp with rfl | h
                      · exact .head _
                      · exact .tail _ (List.mem_append_left _ h)
                    · rw [take_fold hd, ← enl]; exact (if_pos hb1).symm
                    · intro z _ g3
                      simp only [List.contains_cons, List.contains_nil, Bool.or_false, Bool.or_eq_false_iff, beq_eq_false_iff_ne] at g3
                      simp [g3]
                  · rename Int.fmod _ _ ≠ 1 => hb1
                    rw [bt_f] at hb1
                    refine' rt_end (nv, nl) (by assumption) (by assumption) ⟨hnv, ?_⟩ (fun _ h => nomatch h) ?_ rfl ?gn (fun p hp => .tail _ (List.mem_append_right _ hp))
                    case gn =>
                      intro p hp
                      rcases List.mem_cons.mp hp with rfl | h
                      · exact .head _
                      · exact .tail _ (List.mem_append_left _ h)
                    · rw [take_fold hd, ← enl]; exact (if_neg hb1).symm
                    · intro z _ g3
                      simp only [List.contains_cons, List.contains_nil, Bool.or_false, Bool.or_eq_false_iff, beq_eq_false_iff_ne] at g3
                      simp [g3]
              · rintro ⟨nv, nl⟩ u2 h2 tk2 ⟨hnv, enl⟩ F12 N12
                dsimp only [kstB] at F12 N12 enl
                rw [lvs, List.take_length] at enl
                have hr4 : Rng4 nl := by rw [enl]; exact rng_swps rng_0123 hvds
                walk_at "my steps"
                rename_i hR13 F13 N13 _
                have l1a : as.length = os1.length := by rw [la, hos1.four]
                have l0a : as.length = os.length := by omega
                rw [eY2] at N13
                have N14 := permN N13
                have hX3 := offName (q := (lnm, listOf nv.toArray 0)) l1a (offMore l0a hX2 hoff8) hYlt eY2
                refine' rngS (σ := List Row3) (fun o => ((lnm, listOf nv.toArray 0) :: (((lt, LCg.lst ys) :: X) ++ own8)) ++ TL as o) (fun _ => []) ["at"] (fun i o => OsAre mn o (fun i' j => bsum (toldV rs ds i' j) (if i' < i then b + 1 else b))) os1 rfl hR13 (n := 4) ⟨by decide, by omega⟩ (by omega) F13 N14 (hos1.congr fun i j _ _ => by rw [if_neg (Nat.not_lt_zero _)]) (fun _ h => nomatch h) ?_ ?_
                · rintro i os2 t14 u14 h14 tk14 own9 hlt14 hoff9 hos2 F15 N15
                  have l2a : as.length = os2.length := by rw [la, hos2.four]
                  have hX4 := offMore l1a hX3 hoff9
                  dsimp only [kstB] at F15 N15
                  rw [eX] at N15
                  simp only [List.cons_append] at N15
                  walk_at "my steps"
                  rename_i hR16 F16 N16 _
                  have N17 := castN (R' := (((lnm, listOf nv.toArray 0) :: (((lt, LCg.lst ys) :: X) ++ own8)) ++ TL as os2) ++ own9) N16 (by rw [eX]; rfl)
                  refine' rngS (σ := List Row3) (fun o => (((lnm, listOf nv.toArray 0) :: (((lt, LCg.lst ys) :: X) ++ own8)) ++ own9) ++ TL as o) (fun _ => []) [] (fun a o => OsAre mn o (fun i' j => bsum (toldV rs ds i' j) (if i' < i ∨ (i' = i ∧ j < a) then b + 1 else b))) os2 rfl hR16 (n := mn) ⟨by decide, by omega⟩ (by omega) F16 (permN2 N17) (hos2.congr fun i' j _ _ => by simp) (fun _ h => nomatch h) ?_ ?_
                  · rintro a os3 t16 u16 h16 tk16 own10 hlt16 hoff10 hos3 F18 N18
                    dsimp only [kstB] at F18 N18
                    obtain ⟨G, eG, NG⟩ := nameN N18
                    clear N18
                    have l3a : as.length = os3.length := by rw [la, hos3.four]
                    have e0 : (0 + (i : Int)).toNat = i := by omega
                    have e3 : (0 + (a : Int)).toNat = a := by omega
                    have hmt : (lt, LCg.lst ys) ∈ G := by rw [eG]; exact List.mem_append_left _ (List.mem_append_left _ (List.mem_append_left _ (.tail _ (List.mem_append_left _ (.head _)))))
                    have hmn' : (lnm, listOf nv.toArray 0) ∈ G := by rw [eG]; exact List.mem_append_left _ (List.mem_append_left _ (List.mem_append_left _ (.head _)))
                    have hsub : ∀ p ∈ R, p ∈ G := fun p hp => by rw [eG, hXR]; exact List.mem_append_left _ (List.mem_append_left _ (List.mem_append_left _ (.tail _ (List.mem_append_left _ (.tail _ (.tail _ hp))))))
                    have hms := hsub _ (headOf eR)
                    have hmi : (as.getD (0 + (i : Int)).toNat 0, listOf (os3.getD i no3).1.toArray (os3.getD i no3).2.2) ∈ G := by rw [eG, e0]; exact List.mem_append_left _ (List.mem_append_right _ (TL_mem l3a i (by omega)))
                    have hU : ∀ (x : Int) (u : Tok), Upd (as.getD (0 + (i : Int)).toNat 0) (listOf (os3.getD i no3).1.toArray (os3.getD i no3).2.2) (listOf ((os3.getD i no3).1.set (0 + (a : Int)).toNat (.int x u)).toArray (os3.getD i no3).2.2) G
                        (((((lnm, listOf nv.toArray 0) :: (((lt, LCg.lst ys) :: X) ++ own8)) ++ own9) ++ TL as (os3.set i ((os3.getD i no3).1.set (0 + (a : Int)).toNat (.int x u), (os3.getD i no3).2.1.set (0 + (a : Int)).toNat x, (os3.getD i no3).2.2))) ++ own10) := fun x u => by
                      rw [eG, e0, List.append_assoc, List.append_assoc _ (TL as (os3.set _ _)) own10]
                      exact upd_pre (TL_upd hnd l3a i (by omega) (fun p hp => hoff10 p hp _ (asIn l2a (getD_mem0 (by omega))))) (fun p hp => hX4 p hp _ (getD_mem0 (by omega)))
                    have hint := hos3.itss i hlt14
                    have hil : (os3.getD i no3).2.1.length = mn := by rw [hos3.vals i hlt14]; simp
                    have hn4 := hr4.1
                    obtain ⟨hnr1, hnr2⟩ := hr4.2 (0 + (i : Int)).toNat (by omega)
                    have hbi := KBa.ints_make (hj2 (nl.getD (0 + (i : Int)).toNat 0).toNat (by omega))
                    have hbl := hj1 (nl.getD (0 + (i : Int)).toNat 0).toNat (by omega)
                    walk_at "my steps"
                    refine' at_end (by assumption) (by assumption) ?gJ ?gr l2a l3a
                    case gr => (intro z g1 g3; simp [g1])
                    case gJ =>
                      have hold : (os3.getD i no3).2.1.getD a 0 = bsum (toldV rs ds i a) b := by
                        rw [hos3.vals i hlt14, getD_range_map hlt16, if_neg (by omega)]
                      rw [e3, hold, bt_f]
                      refine (hos3.set hlt14).congr fun i' j hi' hj => ?_
                      by_cases h1 : i' = i
                      · subst h1
                        rw [if_pos rfl]
                        by_cases h2 : j = a
                        · subst h2
                          rw [if_pos rfl, if_pos (.inr ⟨rfl, Nat.lt_succ_self _⟩), e0, enl]
                          have e4 : (0 + (b : Int)).toNat = b := by omega
                          rw [e4]
                          rfl
                        · rw [if_neg h2]
                          by_cases h3 : j < a
                          · rw [if_pos (.inr ⟨rfl, h3⟩), if_pos (.inr ⟨rfl, by omega⟩)]
                          · rw [if_neg (by omega), if_neg (by omega)]
                      · rw [if_neg h1]
                        by_cases h3 : i' < i
                        · rw [if_pos (.inl h3), if_pos (.inl h3)]
                        · rw [if_neg (by omega), if_neg (by omega)]
                  · rintro os3 u16 h16 tk16 hos3 F18 N18
                    dsimp only [kstB] at F18 N18
                    walk_at "my steps"
                    refine' rs_end os3 (by assumption) (by assumption) ?gJ (fun _ h => nomatch h) ?gr ?ga ?gn ?go
                    case gn => exact fun p hp => (List.mem_append.mp hp).elim (fun h => List.mem_append_left _ (List.mem_append_left _ h)) fun h => List.mem_append_right _ h
                    case go => exact fun p hp => List.mem_append_left _ (List.mem_append_right _ hp)
                    case ga => exact ledFst (Z := (lnm, listOf nv.toArray 0) :: (((lt, LCg.lst ys) :: X) ++ own8)) l1a (by rw [la, hos3.four])
                    case gr => (intro z g1 g2 g3; (simp only [List.contains_cons, List.contains_nil, Bool.or_false, Bool.or_eq_false_iff, beq_eq_false_iff_ne] at g3); simp [g1, g3])
                    case gJ =>
                      refine hos3.congr fun i' j hi' hj => ?_
                      by_cases h3 : i' < i + 1
                      · rw [if_pos h3, if_pos (by omega)]
                      · rw [if_neg h3, if_neg (by omega)]
                · rintro os2 u14 h14 tk14 hos2 F15 N15
                  dsimp only [kstB] at F15 N15
                  walk_at "my steps"
                  refine' rs_end os2 (by assumption) (by assumption) ?gJ (fun _ h => nomatch h) ?gr ?ga ?gn ?go
                  case gn => exact fun p hp => (List.mem_append.mp hp).elim (fun h => List.mem_append_left _ (.tail _ (List.mem_append_left _ h))) fun h => List.mem_append_right _ h
                  case go => exact fun p hp => List.mem_append_left _ (.tail _ (List.mem_append_right _ hp))
                  case ga => exact ledFst (Z := (lt, LCg.lst ys) :: X) l0a (by rw [la, hos2.four])
                  case gr => (intro z g1 g2 g3; (simp only [List.contains_cons, List.contains_nil, Bool.or_false, Bool.or_eq_false_iff, beq_eq_false_iff_ne] at g3); simp [g1, g3])
                  case gJ => exact hos2.congr fun i' j hi' hj => by rw [if_pos hi']
            · rintro os1 u8 h8 tk8 hos1 F9 N9
              dsimp only [kstB] at F9 N9
              have l1a : as.length = os1.length := by rw [la, hos1.four]
              have lys2 := All2.length hys
              have hmAll : ∀ i, i < 4 → (as.getD i 0, listOf (os1.getD i no3).1.toArray (os1.getD i no3).2.2) ∈ ((lt, LCg.lst ys) :: X) ++ TL as os1 := fun i hi => List.mem_append_right _ (TL_mem l1a i (by omega))
              rw [eX] at N9 hmAll
              simp only [List.cons_append] at N9 hmAll
              walk_at "my steps"
              refine' compN (n := ys.toArray.size) (fun i zs2 nx => nx = _ ∧ BytesAre zs2 ((List.range i).map (rowV mn rs ds))) ⟨rfl, .nil⟩ ?_ ?_
              · rintro i zs2 _ v I oI C oC D m₂ h3 tk3 E' hlt ⟨rfl, hb2⟩ hP hC hx F3 N3 off ne
                have hP' : ys[i]? = some v := by simpa using hP
                have hi4 : i < 4 := by
                  have := (List.getElem?_eq_some_iff.mp hP').1
                  omega
                obtain ⟨a, ha, rfl⟩ := hys.at hP'
                have ea : a = as.getD i 0 := by rw [List.getD_eq_getElem?_getD, ha]; rfl
                have hmi := hmAll i hi4
                rw [← ea] at hmi
                have hmi2 : (a, listOf (os1.getD i no3).1.toArray (os1.getD i no3).2.2) ∈ (I, oI) :: (C, oC) :: (D, LCg.lst zs2) :: _ := .tail _ (.tail _ (.tail _ hmi))
                have hint := hos1.itss i hi4
                rw [hos1.vals i hi4] at hint
                have hint2 : IntsAre (os1.getD i no3).1 (rowV mn rs ds i) := hint
                have hrin := rowV_in mn rs ds i
                have hrl : (rowV mn rs ds i).length = mn := by simp [rowV]
                walk_at "my steps"
                refine LCg.CompEnd.intro (by assumption) (by assumption) _ (fun p hp => hp) off (.inr ⟨_, .head _, rfl, _, rfl⟩) ⟨rfl, ?_⟩
                rw [List.range_succ, List.map_append]
                exact All2.push ⟨_, rfl⟩ hb2
              · rintro zs2 _ ⟨rfl, hb2⟩
                have e4 : ys.toArray.size = 4 := by rw [List.size_toArray]; omega
                rw [e4, rowV_all hok hvds] at hb2
                rw [lvs, List.take_length] at er
                rw [← er] at hb2
                have hok2 : Ok mn rs' := by rw [er]; exact hok.chgs hvds
                walk_at "my steps"
                rename_i vI _ F20 N20 l20
                have hXR2 : X = (lr, listOf rv.toArray zs.length) :: R := by rw [eX, eR]
                have l21 : AllLt vI (X ++ TL as os1) := by rw [eX]; exact l20.2.2
                have N21 := subN (R' := (vI, revObj ls ((vs.length : Int) - 1)) :: (lr, listOf rv.toArray zs.length) :: R) N20 (fun p hp => (List.mem_cons.mp hp).elim (fun e => by rw [e]; exact .head _) fun h => by
                  rw [← hXR2, eX] at h
                  exact .tail _ (.tail _ (.tail _ (List.mem_append_left (TL as os1) h))))
                have hoffI : ∀ b ∈ lr :: R.map (·.1), b ≠ vI := fun b hb => by
                  have h1 : b ∈ X.map (·.1) := by rw [hXR2]; exact hb
                  obtain ⟨q, hq, rfl⟩ := List.mem_map.mp h1
                  exact Nat.ne_of_lt (kst_ltOf l21 q (List.mem_append_left _ hq))
                refine' revT (σ := List Value × List (List Int)) (n := nn) (xs := vs) (adr := lr :: R.map (·.1)) (fun c => (lr, listOf c.1.toArray zs.length) :: R) (fun _ => []) ["step"] (fun k c => BytesAre c.1 c.2 ∧ c.2 = (ds.reverse.take k).foldl chg rs') (rv, rs') rfl F20 N21 hoffI (fun _ => rfl) (fun _ => .tail _ hS) ⟨hb', rfl⟩ (fun _ h => nomatch h) ?_ ?_
                · rintro i ⟨rv2, rs2⟩ v u9 h9 tk9 own hv ho ⟨hb3, er2⟩ F22 N22
                  dsimp only [kstB] at F22 N22 er2
                  obtain ⟨d, hd, T, n, t1, t2, cv, rfl, hmT, hc, hL, hRr⟩ := hst.reverse.at hv
                  have hvd : Vd d := ⟨hL, hRr⟩
                  have hvs : ∀ e ∈ ds.reverse.take i, Vd e := fun e he => hvds e (List.mem_reverse.mp (List.mem_of_mem_take he))
                  have hok' : Ok mn rs2 := by rw [er2]; exact hok2.chgs hvs
                  have hm7 : (T, tupO [.int d.1 t1, .int d.2.1 t2, cv] n) ∈ R ++ own := List.mem_append_left _ (hTl _ hmT)
                  have hkr : ∀ p ∈ R ++ own, p.1 ≠ lr := fun p hp => (List.mem_append.mp hp).elim (hR p) fun h => ho p h lr (.head _)
                  rw [List.cons_append] at N22
                  walk_at "my steps"
                  refine' rt_end (_, chg rs2 d) (by assumption) (by assumption) ⟨by assumption, ?_⟩ (fun _ h => nomatch h) ?_ rfl ?gn (fun p hp => .tail _ (List.mem_append_right _ hp))
                  case gn =>
                    intro p hp
                    rcases List.mem_cons.mp hp with rfl | h
                    · exact .head _
                    · exact .tail _ (List.mem_append_left _ h)
                  · show chg rs2 d = _
                    rw [er2, take_fold hd]
                  · intro z _ g3
                    simp only [List.contains_cons, List.contains_nil, Bool.or_false, beq_eq_false_iff_ne] at g3
                    simp [g3]
                · rintro ⟨rv2, rs2⟩ u9 h9 tk9 ⟨hb3, er2⟩ F22 N22
                  dsimp only [kstB] at F22 N22 er2
                  rw [List.take_of_length_le (by rw [List.length_reverse, lvs]; exact Nat.le_refl _), er, chgs_back hok hvds] at er2
                  subst er2
                  rw [eR] at N22
                  walk_at "my steps"
                  done)
end Mine

theorem PySem.Challenge.cw_yd0001_02_holds : PySem.Challenge.rw_yd0001_02.Holds :=
  Mine.T2
