import PyProof.Rows.All
import Wide.All
import OpenK.AllK
import Wide.FinOn
import PySem.Challenge.RW_et5010_01
open PySem PySem.W PySem.Spec PySem.Calls PyProof.Rows
set_option Elab.async false
set_option maxRecDepth 100000
set_option linter.unusedVariables false
section
set_option maxHeartbeats 8000000
namespace Mine
open_top hd for PySem.Challenge.rw_et5010_01
end Mine
end
section
namespace Mine
theorem offTP : True := by
  w_on
  w_top off
  exact trivial
end Mine
namespace Mine
def upd (f : Nat → Nat) (i j : Nat) : Nat → Nat := fun k => if k = i then j else f k
def Maps (n : Nat) (f : Nat → Nat) : Prop := ∀ k, k < n → f k < n
theorem Maps.lt {n : Nat} {f : Nat → Nat} {k : Nat} (h : Maps n f) (hk : k < n) : f k < n := h k hk
theorem Maps.upd {n : Nat} {f : Nat → Nat} {i j : Nat} (h : Maps n f) (hj : j < n) : Maps n (upd f i j) := fun k hk => by
  unfold Mine.upd; split
  · exact hj
  · exact h k hk

/-- the list that turns -/
def back (l : List Nat) : List Nat := l.getLastD 0 :: l.tail.dropLast
def fwd (l : List Nat) : List Nat := l.tail ++ [l.headD 0]
def filtN (R : List Nat → Bool) : Nat → List Nat → Nat → Option (List Nat)
  | 0, _, _ => none
  | n + 1, l, stop => if R l = true then (if (back l).length = 1 then some (back l) else filtN R n (back l) ((back l).headD 0))
      else if (fwd l).headD 0 = stop then some (fwd l) else filtN R n (fwd l) stop

/-- linked both ways -/
def Ch (nx pv : Nat → Nat) : Nat → List Nat → Nat → Prop
  | a, [], z => nx a = z ∧ pv z = a
  | a, b :: t, z => (nx a = b ∧ pv b = a) ∧ Ch nx pv b t z
def Linked (nx pv : Nat → Nat) : List Nat → Prop
  | [] => False
  | h :: t => Ch nx pv h t h

theorem Ch.snoc {nx pv : Nat → Nat} : ∀ {t : List Nat} {a b z : Nat}, Ch nx pv a (t ++ [b]) z ↔ Ch nx pv a t b ∧ (nx b = z ∧ pv z = b)
  | [], a, b, z => Iff.rfl
  | c :: t, a, b, z => by
    show (nx a = c ∧ pv c = a) ∧ Ch nx pv c (t ++ [b]) z ↔ ((nx a = c ∧ pv c = a) ∧ Ch nx pv c t b) ∧ (nx b = z ∧ pv z = b)
    rw [Ch.snoc, and_assoc, and_assoc, and_assoc]
theorem lastD_snoc (l : List Nat) (z : Nat) : (l ++ [z]).getLastD 0 = z := by
  rw [List.getLastD_eq_getLast?, List.getLast?_append]; rfl
theorem lastD_cons_snoc (a : Nat) (l : List Nat) (z : Nat) : (a :: (l ++ [z])).getLastD 0 = z := lastD_snoc (a :: l) z
theorem linked_fwd {nx pv : Nat → Nat} {l : List Nat} (h : Linked nx pv l) : Linked nx pv (fwd l) := by
  match l, h with
  | [a], h => exact h
  | a :: b :: t, h =>
    obtain ⟨h1, h2⟩ := (h : (nx a = b ∧ pv b = a) ∧ Ch nx pv b t a)
    show Ch nx pv b (t ++ [a]) b
    exact Ch.snoc.mpr ⟨h2, h1⟩
theorem ch_upd2 {nx pv : Nat → Nat} {z c d e f : Nat} : ∀ {t : List Nat} {a : Nat}, c ∉ a :: t → d ∉ t ++ [z] → Ch nx pv a t z → Ch (upd nx c e) (upd pv d f) a t z
  | [], a, hc, hd, h => by
    refine ⟨?_, ?_⟩
    · unfold upd; rw [if_neg fun q : a = c => hc (q ▸ List.Mem.head _)]; exact h.1
    · unfold upd; rw [if_neg fun q : z = d => hd (q ▸ List.Mem.head _)]; exact h.2
  | b :: t, a, hc, hd, h => by
    refine ⟨⟨?_, ?_⟩, ch_upd2 (fun q => hc (.tail _ q)) (fun q => hd (.tail _ q)) h.2⟩
    · unfold upd; rw [if_neg fun q : a = c => hc (q ▸ List.Mem.head _)]; exact h.1.1
    · unfold upd; rw [if_neg fun q : b = d => hd (q ▸ List.Mem.head _)]; exact h.1.2
theorem linked_pv {nx pv : Nat → Nat} {l : List Nat} (h : Linked nx pv l) : pv (l.headD 0) = l.getLastD 0 := by
  match l, h with
  | a :: t, h =>
    rcases List.eq_nil_or_concat t with rfl | ⟨t', z, rfl⟩
    · exact h.2
    · rw [List.concat_eq_append] at *
      rw [lastD_cons_snoc]
      exact (Ch.snoc.mp h).2.2
theorem linked_nx {nx pv : Nat → Nat} {l : List Nat} (h : Linked nx pv l) : nx (l.headD 0) = l.getD (1 % l.length) 0 := by
  match l, h with
  | [a], h =>
    have h : nx a = a ∧ pv a = a := h
    show nx a = [a].getD (1 % 1) 0
    rw [h.1]; rfl
  | a :: b :: t, h =>
    have e : 1 % (a :: b :: t).length = 1 := Nat.mod_eq_of_lt (by simp)
    rw [e]; exact h.1.1
theorem linked_back {nx pv : Nat → Nat} {l : List Nat} (h : Linked nx pv l) (hn : l.Nodup) :
    Linked (upd nx (pv (l.headD 0)) (nx (l.headD 0))) (upd pv (nx (l.headD 0)) (pv (l.headD 0))) (back l) := by
  match l, h with
  | [a], h =>
    have h : nx a = a ∧ pv a = a := h
    show upd nx (pv a) (nx a) a = a ∧ upd pv (nx a) (pv a) a = a
    unfold upd
    rw [h.1, h.2]; simp
  | a :: b :: t, h =>
    obtain ⟨h1, h2⟩ := (h : (nx a = b ∧ pv b = a) ∧ Ch nx pv b t a)
    rw [List.nodup_cons, List.nodup_cons] at hn
    obtain ⟨ha, hb, ht⟩ := hn
    rcases List.eq_nil_or_concat t with rfl | ⟨t', z, rfl⟩
    · have h2 : nx b = a ∧ pv a = b := h2
      show upd nx (pv a) (nx a) b = b ∧ upd pv (nx a) (pv a) b = b
      unfold upd
      rw [h1.1, h2.2]; simp
    · rw [List.concat_eq_append] at *
      obtain ⟨h3, h4⟩ := Ch.snoc.mp h2
      have e : back (a :: b :: (t' ++ [z])) = z :: b :: t' := by
        unfold back
        show (a :: b :: (t' ++ [z])).getLastD 0 :: (b :: (t' ++ [z])).dropLast = _
        rw [show a :: b :: (t' ++ [z]) = (a :: b :: t') ++ [z] from rfl, show b :: (t' ++ [z]) = (b :: t') ++ [z] from rfl, List.dropLast_concat, lastD_snoc]
      rw [e]
      show Ch (upd nx (pv a) (nx a)) (upd pv (nx a) (pv a)) z (b :: t') z
      rw [h1.1, h4.2]
      refine ⟨⟨by unfold upd; rw [if_pos rfl], by unfold upd; rw [if_pos rfl]⟩, ?_⟩
      refine ch_upd2 ?_ ?_ h3
      · intro q
        rcases List.mem_cons.mp q with q | q
        · subst q; exact hb (List.mem_append_right _ (.head _))
        · rw [List.nodup_append] at ht; exact ht.2.2 z q z (.head _) rfl
      · exact hb

theorem back_ne {l : List Nat} : back l ≠ [] := by unfold back; exact fun h => by cases h
theorem fwd_ne {l : List Nat} : fwd l ≠ [] := by unfold fwd; simp
theorem back_concat {a z : Nat} {t : List Nat} : back (a :: (t ++ [z])) = z :: t := by
  unfold back
  show (a :: (t ++ [z])).getLastD 0 :: (t ++ [z]).dropLast = _
  rw [show a :: (t ++ [z]) = (a :: t) ++ [z] from rfl, List.dropLast_concat, lastD_snoc]
theorem back_one {a : Nat} : back [a] = [a] := rfl
theorem fwd_cons {a : Nat} {t : List Nat} : fwd (a :: t) = t ++ [a] := rfl
theorem mem_back {l : List Nat} {x : Nat} (hl : l ≠ []) (h : x ∈ back l) : x ∈ l := by
  match l, hl with
  | a :: t, _ =>
    rcases List.eq_nil_or_concat t with rfl | ⟨t', z, rfl⟩
    · exact h
    · rw [List.concat_eq_append] at *
      rw [back_concat] at h
      rcases List.mem_cons.mp h with rfl | h
      · simp
      · simp [h]
theorem mem_fwd {l : List Nat} {x : Nat} (hl : l ≠ []) : x ∈ fwd l ↔ x ∈ l := by
  match l, hl with
  | a :: t, _ => rw [fwd_cons]; simp [or_comm]
theorem nodup_fwd {l : List Nat} (hl : l ≠ []) (h : l.Nodup) : (fwd l).Nodup := by
  match l, hl with
  | a :: t, _ =>
    rw [fwd_cons]
    rw [List.nodup_cons] at h
    rw [List.nodup_append]
    exact ⟨h.2, by simp, fun x hx y hy e => by simp at hy; subst hy; subst e; exact h.1 hx⟩
theorem nodup_back {l : List Nat} (hl : l ≠ []) (h : l.Nodup) : (back l).Nodup := by
  match l, hl with
  | a :: t, _ =>
    rcases List.eq_nil_or_concat t with rfl | ⟨t', z, rfl⟩
    · exact h
    · rw [List.concat_eq_append] at *
      rw [back_concat]
      rw [List.nodup_cons, List.nodup_append] at h
      rw [List.nodup_cons]
      exact ⟨fun q => h.2.2.2 z q z (.head _) rfl, h.2.1⟩
theorem len_fwd {l : List Nat} (hl : l ≠ []) : (fwd l).length = l.length := by
  match l, hl with
  | a :: t, _ => rw [fwd_cons]; simp
theorem len_back {l : List Nat} (h2 : 2 ≤ l.length) : (back l).length + 1 = l.length := by
  match l, h2 with
  | a :: b :: t, _ =>
    rcases List.eq_nil_or_concat (b :: t) with e | ⟨t', z, e⟩
    · cases e
    · rw [List.concat_eq_append] at e
      rw [e, back_concat]; simp

/-- it ends -/
theorem filt_ends (R : List Nat → Bool) : ∀ (k : Nat) (l : List Nat), l.length ≤ k → l ≠ [] → ∀ (stop : Nat), stop ∈ l → ∃ n r, filtN R n l stop = some r := by
  intro k
  induction k with
  | zero => intro l hl hne; exact absurd (List.length_eq_zero_iff.mp (Nat.le_zero.mp hl)) hne
  | succ k ih =>
    have go : ∀ (a : List Nat) (b : List Nat) (l : List Nat) (stop : Nat), l.length ≤ k + 1 → l ≠ [] → fwd l = a ++ stop :: b → ∃ n r, filtN R n l stop = some r := by
      intro a
      induction a with
      | nil =>
        intro b l stop hl hne e
        by_cases hR : R l = true
        · by_cases h1 : (back l).length = 1
          · exact ⟨1, back l, by unfold filtN; rw [if_pos hR, if_pos h1]⟩
          · have h2 : 2 ≤ l.length := by
              match l, hne with
              | [x], _ => exact absurd rfl h1
              | x :: y :: t, _ => simp
            have := len_back h2
            obtain ⟨n, r, h⟩ := ih (back l) (by omega) back_ne ((back l).headD 0) (by unfold back; exact .head _)
            exact ⟨n + 1, r, by unfold filtN; rw [if_pos hR, if_neg h1]; exact h⟩
        · exact ⟨1, fwd l, by unfold filtN; rw [if_neg hR, if_pos (by rw [e]; rfl)]⟩
      | cons c a iha =>
        intro b l stop hl hne e
        by_cases hR : R l = true
        · by_cases h1 : (back l).length = 1
          · exact ⟨1, back l, by unfold filtN; rw [if_pos hR, if_pos h1]⟩
          · have h2 : 2 ≤ l.length := by
              match l, hne with
              | [x], _ => exact absurd rfl h1
              | x :: y :: t, _ => simp
            have := len_back h2
            obtain ⟨n, r, h⟩ := ih (back l) (by omega) back_ne ((back l).headD 0) (by unfold back; exact .head _)
            exact ⟨n + 1, r, by unfold filtN; rw [if_pos hR, if_neg h1]; exact h⟩
        · by_cases hs : (fwd l).headD 0 = stop
          · exact ⟨1, fwd l, by unfold filtN; rw [if_neg hR, if_pos hs]⟩
          · obtain ⟨n, r, h⟩ := iha (b ++ [c]) (fwd l) stop (by rw [len_fwd hne]; exact hl) fwd_ne (by rw [e]; show (a ++ stop :: b) ++ [c] = _; simp)
            exact ⟨n + 1, r, by unfold filtN; rw [if_neg hR, if_neg hs]; exact h⟩
    intro l hl hne stop hs
    obtain ⟨a, b, e⟩ := List.append_of_mem ((mem_fwd hne).mpr hs)
    exact go a b l stop hl hne e

/-- what a run keeps -/
theorem filt_keeps {R : List Nat → Bool} (I : List Nat → Prop) (hb : ∀ l, l ≠ [] → I l → R l = true → I (back l)) (hf : ∀ l, l ≠ [] → I l → I (fwd l)) :
    ∀ (n : Nat) (l : List Nat) (stop : Nat) (r : List Nat), l ≠ [] → I l → filtN R n l stop = some r → r ≠ [] ∧ I r := by
  intro n
  induction n with
  | zero => intro l stop r _ _ h; cases h
  | succ n ih =>
    intro l stop r hne hI h
    unfold filtN at h
    split at h
    · rename_i hR
      split at h
      · cases h; exact ⟨back_ne, hb l hne hI hR⟩
      · exact ih _ _ _ back_ne (hb l hne hI hR) h
    · split at h
      · cases h; exact ⟨fwd_ne, hf l hne hI⟩
      · exact ih _ _ _ fwd_ne (hf l hne hI) h

def AllPass (R : List Nat → Bool) (r : List Nat) : Prop := ∀ x y, r = x ++ y → y ≠ [] → R (y ++ x) = false
/-- begun and ended at one place: nothing is left to go -/
theorem filt_done {R : List Nat → Bool} : ∀ (n : Nat) (a c : List Nat) (stop : Nat) (r : List Nat), (a ++ c).Nodup → a ≠ [] → (c ++ a).headD 0 = stop →
    (∀ x y, c = x ++ y → y ≠ [] → R (y ++ a ++ x) = false) → filtN R n (a ++ c) stop = some r → r.length = 1 ∨ AllPass R r := by
  intro n
  induction n with
  | zero => intro a c stop r _ _ _ _ h; cases h
  | succ n ih =>
    intro a c stop r hn ha hs hc h
    unfold filtN at h
    have hne : a ++ c ≠ [] := by simp [ha]
    split at h
    · rename_i hR
      split at h
      · rename_i h1
        cases h; exact .inl h1
      · refine ih (back (a ++ c)) [] _ r ?_ back_ne rfl (fun x y e hy => ?_) ?_
        · rw [List.append_nil]; exact nodup_back hne hn
        · simp at e; exact absurd e.2 hy
        · rw [List.append_nil]; exact h
    · rename_i hR
      match a, ha with
      | b :: a', _ =>
        have e : fwd (b :: a' ++ c) = a' ++ (c ++ [b]) := by show (a' ++ c) ++ [b] = _; rw [List.append_assoc]
        rw [e] at h
        have hR : R (b :: a' ++ c) = false := by simpa using hR
        have hp : ∀ x y, c ++ [b] = x ++ y → y ≠ [] → R (y ++ a' ++ x) = false := by
          intro x y e2 hy
          rcases List.eq_nil_or_concat y with rfl | ⟨y', z, rfl⟩
          · exact absurd rfl hy
          · rw [List.concat_eq_append, ← List.append_assoc] at e2
            have e3 := List.append_inj' e2 rfl
            have : z = b := by have := e3.2; simp at this; exact this.symm
            subst this
            by_cases hy' : y' = []
            · subst hy'
              have e4 : c = x := by simpa using e3.1
              subst e4
              simpa using hR
            · have := hc x y' e3.1 hy'
              simpa using this
        have hn' : (a' ++ (c ++ [b])).Nodup := by rw [← e]; exact nodup_fwd hne hn
        have hs' : ((c ++ [b]) ++ a').headD 0 = stop := by
          rw [← hs]
          cases c with
          | nil => rfl
          | cons d c => rfl
        split at h
        · rename_i h1
          have : a' = [] := by
            match a' with
            | [] => rfl
            | d :: a'' =>
              exfalso
              have h1 : d = stop := h1
              rw [List.nodup_append] at hn'
              refine hn'.2.2 d (.head _) stop ?_ h1
              rw [← hs']
              cases c with
              | nil => simp
              | cons f c => simp
          subst this
          cases h
          refine .inr fun x y e2 hy => ?_
          have := hp x y (by simpa using e2) hy
          simpa using this
        · rename_i h1
          refine ih a' (c ++ [b]) stop r hn' (fun q => ?_) hs' hp h
          subst q
          apply h1
          rw [← hs']
          simp
/-- asked again: the same -/
theorem filt_again {R : List Nat → Bool} {r : List Nat} (hn : r.Nodup) (hp : AllPass R r) : ∀ (y x : List Nat), r = x ++ y → y ≠ [] → ∃ m, filtN R m (y ++ x) (r.headD 0) = some r := by
  intro y
  induction y with
  | nil => intro x _ h; exact absurd rfl h
  | cons b y ih =>
    intro x e _
    have hR : R (b :: y ++ x) = false := hp x (b :: y) e (fun h => by cases h)
    have e2 : fwd (b :: y ++ x) = y ++ (x ++ [b]) := by show (y ++ x) ++ [b] = _; rw [List.append_assoc]
    by_cases hy : y = []
    · subst hy
      refine ⟨1, ?_⟩
      unfold filtN
      rw [if_neg (by rw [hR]; decide), e2]
      have : [] ++ (x ++ [b]) = r := e.symm
      rw [this, if_pos rfl]
    · obtain ⟨m, h⟩ := ih (x ++ [b]) (by rw [e]; simp) hy
      refine ⟨m + 1, ?_⟩
      unfold filtN
      rw [if_neg (by rw [hR]; decide), e2, if_neg ?_]
      · exact h
      · match y, hy with
        | d :: y', _ =>
          intro q
          have q : d = r.headD 0 := q
          rw [e] at hn q
          have : (x ++ [b]).headD 0 = (x ++ b :: d :: y').headD 0 := by cases x <;> rfl
          rw [← this] at q
          have hn2 : ((x ++ [b]) ++ (d :: y')).Nodup := by simpa using hn
          rw [List.nodup_append] at hn2
          refine hn2.2.2 ((x ++ [b]).headD 0) ?_ d (.head _) q.symm
          cases x <;> simp
theorem filt_same {R : List Nat → Bool} {r : List Nat} (hne : r ≠ []) (hn : r.Nodup) (h : r.length = 1 ∨ AllPass R r) : ∃ m, filtN R m r (r.headD 0) = some r := by
  rcases h with h | h
  · match r, h with
    | [a], _ =>
      refine ⟨1, ?_⟩
      unfold filtN
      cases h : R [a] with
      | true => rw [if_pos rfl]; rfl
      | false => rw [if_neg (by decide), if_pos (show (fwd [a]).headD 0 = [a].headD 0 from rfl)]; rfl
  · have := filt_again hn h r [] rfl hne
    simpa using this
end Mine
end
section
set_option maxHeartbeats 8000000
namespace Mine
theorem offT2 : True := by
  w_on
  w_top off
  exact trivial
end Mine
namespace Mine
theorem fill : (Mine.hd.heap_39 = Mine.hd.heap_39 ∧ PySem.Challenge.rw_et5010_01 = PySem.Challenge.rw_et5010_01) := by
  k_fill
  exact ⟨rfl, rfl⟩

/-- what stays of a ring's nodes, by their places -/
structure RS where
  n : Nat
  A : Nat → Addr
  D : Nat → Addr
  tk : Nat → Nat → Tok
  ti : Nat → Tok
  pt : Nat → Addr
  x : Nat → Int
  tx : Nat → Tok
  y : Nat → Int
  ty : Nat → Tok
  tz : Nat → Tok

def ndEs (P : Params) (S : RS) (st : Nat → Bool) (nx pv : Nat → Nat) (k : Nat) : List DictEntry :=
  [⟨PyData.keyHash P (Str.ofString "i"), .str (Str.ofString "i") (S.tk k 0), .int k (S.ti k)⟩,
   ⟨PyData.keyHash P (Str.ofString "point"), .str (Str.ofString "point") (S.tk k 1), .ref (S.pt k)⟩,
   ⟨PyData.keyHash P (Str.ofString "x"), .str (Str.ofString "x") (S.tk k 2), .int (S.x k) (S.tx k)⟩,
   ⟨PyData.keyHash P (Str.ofString "y"), .str (Str.ofString "y") (S.tk k 3), .int (S.y k) (S.ty k)⟩,
   ⟨PyData.keyHash P (Str.ofString "prev"), .str (Str.ofString "prev") (S.tk k 4), .ref (S.A (pv k))⟩,
   ⟨PyData.keyHash P (Str.ofString "next"), .str (Str.ofString "next") (S.tk k 5), .ref (S.A (nx k))⟩,
   ⟨PyData.keyHash P (Str.ofString "z"), .str (Str.ofString "z") (S.tk k 6), .int 0 (S.tz k)⟩,
   ⟨PyData.keyHash P (Str.ofString "prev_z"), .str (Str.ofString "prev_z") (S.tk k 7), .none⟩,
   ⟨PyData.keyHash P (Str.ofString "next_z"), .str (Str.ofString "next_z") (S.tk k 8), .none⟩,
   ⟨PyData.keyHash P (Str.ofString "steiner"), .str (Str.ofString "steiner") (S.tk k 9), .bool (st k)⟩]

def blkAt (P : Params) (S : RS) (st : Nat → Bool) (nx pv : Nat → Nat) (k : Nat) : List (Addr × Obj) := [(S.A k, instObj 59 (S.D k)), (S.D k, dictOf (ndEs P S st nx pv k) 10)]
def blk (P : Params) (S : RS) (st : Nat → Bool) (nx pv : Nat → Nat) : List (Addr × Obj) := (List.range S.n).flatMap (blkAt P S st nx pv)

/-- the addresses are apart -/
structure RS.Ok (S : RS) : Prop where
  ad : ∀ i j, i < S.n → j < S.n → S.A i ≠ S.D j
  dd : ∀ i j, i < S.n → j < S.n → i ≠ j → S.D i ≠ S.D j
  aa : ∀ i j, i < S.n → j < S.n → i ≠ j → S.A i ≠ S.A j
  yy : ∀ i, i < S.n → 0 ≤ S.y i ∧ S.y i ≤ 2

section
variable {P : Params} {S : RS} {st : Nat → Bool} {nx pv : Nat → Nat} {k : Nat}
theorem mem_a (h : k < S.n) : (S.A k, instObj 59 (S.D k)) ∈ blk P S st nx pv := List.mem_flatMap.mpr ⟨k, List.mem_range.mpr h, .head _⟩
theorem mem_d (h : k < S.n) : (S.D k, dictOf (ndEs P S st nx pv k) 10) ∈ blk P S st nx pv := List.mem_flatMap.mpr ⟨k, List.mem_range.mpr h, .tail _ (.head _)⟩

theorem Upd.app {d : Addr} {o o' : Obj} {l l' : List (Addr × Obj)} : ∀ {pre post : List (Addr × Obj)}, (∀ p ∈ pre, p.1 ≠ d) → (∀ p ∈ post, p.1 ≠ d) → Upd d o o' l l' → Upd d o o' (pre ++ (l ++ post)) (pre ++ (l' ++ post))
  | p :: pre, post, h1, h2, U => .tail (h1 p (.head _)) (Upd.app (fun q hq => h1 q (.tail _ hq)) h2 U)
  | [], post, h1, h2, U => by
    show Upd d o o' (l ++ post) (l' ++ post)
    induction U with
    | head h => exact .head fun p hp => (List.mem_append.mp hp).elim (h p) (h2 p)
    | tail h _ ih => exact .tail h ih

theorem range_split {n i : Nat} (h : i < n) : ∃ a b : List Nat, List.range n = a ++ i :: b ∧ (∀ j ∈ a, j ≠ i ∧ j < n) ∧ ∀ j ∈ b, j ≠ i ∧ j < n := by
  have hm : i ∈ List.range n := List.mem_range.mpr h
  obtain ⟨a, b, e⟩ := List.append_of_mem hm
  have hn : (a ++ i :: b).Nodup := e ▸ List.nodup_range
  refine ⟨a, b, e, fun j hj => ⟨fun q => ?_, ?_⟩, fun j hj => ⟨fun q => ?_, ?_⟩⟩
  · have := (List.nodup_append.mp hn).2.2 j hj i (.head _); exact this q
  · exact List.mem_range.mp (e ▸ List.mem_append_left _ hj)
  · have := (List.nodup_append.mp hn).2.1; rw [List.nodup_cons] at this; exact this.1 (q ▸ hj)
  · exact List.mem_range.mp (e ▸ List.mem_append_right _ (.tail _ hj))

theorem flatMap_same {α β : Type} {f g : α → List β} : ∀ {l : List α}, (∀ j ∈ l, f j = g j) → l.flatMap f = l.flatMap g
  | [], _ => rfl
  | a :: l, h => by rw [List.flatMap_cons, List.flatMap_cons, h a (.head _), flatMap_same fun j hj => h j (.tail _ hj)]

theorem upd_blk (hO : S.Ok) {st' : Nat → Bool} {nx' pv' : Nat → Nat} {i : Nat} (hi : i < S.n) (hs : ∀ k, k ≠ i → st' k = st k ∧ nx' k = nx k ∧ pv' k = pv k) :
    Upd (S.D i) (dictOf (ndEs P S st nx pv i) 10) (dictOf (ndEs P S st' nx' pv' i) 10) (blk P S st nx pv) (blk P S st' nx' pv') := by
  obtain ⟨a, b, e, ha, hb⟩ := range_split hi
  unfold blk
  rw [e, List.flatMap_append, List.flatMap_append, List.flatMap_cons, List.flatMap_cons]
  have same : ∀ l : List Nat, (∀ j ∈ l, j ≠ i ∧ j < S.n) → l.flatMap (blkAt P S st' nx' pv') = l.flatMap (blkAt P S st nx pv) := fun l hl =>
    flatMap_same fun j hj => by
      obtain ⟨e1, e2, e3⟩ := hs j (hl j hj).1
      unfold blkAt ndEs; rw [e1, e2, e3]
  have off : ∀ l : List Nat, (∀ j ∈ l, j ≠ i ∧ j < S.n) → ∀ p ∈ l.flatMap (blkAt P S st nx pv), p.1 ≠ S.D i := fun l hl p hp => by
    obtain ⟨j, hj, hp⟩ := List.mem_flatMap.mp hp
    obtain ⟨h1, h2⟩ := hl j hj
    unfold blkAt at hp
    rcases List.mem_cons.mp hp with rfl | hp
    · exact hO.ad j i h2 hi
    · rcases List.mem_cons.mp hp with rfl | hp
      · exact hO.dd j i h2 hi h1
      · cases hp
  rw [same a ha, same b hb]
  refine Upd.app (off a ha) (off b hb) ?_
  exact .tail (hO.ad i i hi hi) (.head fun p hp => nomatch hp)
end

abbrev Ext (h h' : Heap) : Prop := InElt h h'

section
variable {prog : Program} {w : World} {A A₀ : Around} {E : Value → Shared → Prop} {s : Shared} {base h₀ : Heap} {outer : List Env} {env : Env} {L : Addr} {m : Str → Option Value} {p : Program} {loose : List Str} {mean : ExcName → Option Value} {mg mb : Str → Option Value}
  {K : Frag} {news : List (Addr × Obj)} {S : RS} {st : Nat → Bool} {nx pv : Nat → Nat} {name : Str} {expr : Bool} {attr : Option Value} {v : Value} {k : Nat}

theorem ring_get {Q : Value → Shared → Prop} (F : Fr h₀ L s.heap m) (X₀ : K.In h₀) (N : News h₀ L s.heap news) (sub : ∀ q ∈ blk w.params S st nx pv, q ∈ news) (hk : k < S.n)
    (hg : plainGet K 59 name = true) (hh : hasDictIn K 59 = true) (ha : findIn K (.ref 59) name = some attr) (hn : noGet K attr = true) (hl : getL name (ndEs w.params S st nx pv k) = some (some v)) (hv : handedIn v = true) (h : Q v { s with toks := s.toks + 1 }) :
    wpAny (model prog w) A (getAttr (.ref (S.A k)) name expr) Q E s :=
  get_own F X₀ (InstAt.of_news N (sub _ (mem_a hk)) (sub _ (mem_d hk))) hg hh ha hn hl hv h
theorem ring_inst {h : Heap} (N : News h₀ L h news) (sub : ∀ q ∈ blk w.params S st nx pv, q ∈ news) (hk : k < S.n) : InstAt h (S.A k) (instObj 59 (S.D k)) 59 (some (dictOf (ndEs w.params S st nx pv k) 10)) :=
  InstAt.of_news N (sub _ (mem_a hk)) (sub _ (mem_d hk))

theorem ring_set_pv {Q : Unit → Shared → Prop} {j : Nat} (F : Fr h₀ L s.heap m) (X₀ : K.In h₀) (N : News h₀ L s.heap (blk w.params S st nx pv)) (hO : S.Ok) (hk : k < S.n)
    (hs : findIn K (.ref 59) "__setattr__" = some (some (.builtin "object.__setattr__"))) (hp : plainOver K 59 = true) (ht : takerIn K 59 (Str.ofString "prev") = some none) (hh : hasDictIn K 59 = true)
    (h : ∀ h', Fr h₀ L h' m → News h₀ L h' (blk w.params S st nx (upd pv k j)) → Q () { s with heap := h', toks := s.toks + 2 }) :
    wpAny (model prog w) A (setAttr (.ref (S.A k)) (Str.ofString "prev") (.ref (S.A j))) Q E s := by
  refine set_dict F X₀ N (ring_inst N (fun _ h => h) hk) rfl hs hp ht hh (by rfl) ?_ (upd_blk hO hk fun j hj => ⟨rfl, rfl, by unfold upd; rw [if_neg hj]⟩) (by exact Nat.le_of_ble_eq_true rfl) h
  unfold ndEs upd
  rw [if_pos rfl]
  rfl
theorem ring_set_nx {Q : Unit → Shared → Prop} {j : Nat} (F : Fr h₀ L s.heap m) (X₀ : K.In h₀) (N : News h₀ L s.heap (blk w.params S st nx pv)) (hO : S.Ok) (hk : k < S.n)
    (hs : findIn K (.ref 59) "__setattr__" = some (some (.builtin "object.__setattr__"))) (hp : plainOver K 59 = true) (ht : takerIn K 59 (Str.ofString "next") = some none) (hh : hasDictIn K 59 = true)
    (h : ∀ h', Fr h₀ L h' m → News h₀ L h' (blk w.params S st (upd nx k j) pv) → Q () { s with heap := h', toks := s.toks + 2 }) :
    wpAny (model prog w) A (setAttr (.ref (S.A k)) (Str.ofString "next") (.ref (S.A j))) Q E s := by
  refine set_dict F X₀ N (ring_inst N (fun _ h => h) hk) rfl hs hp ht hh (by rfl) ?_ (upd_blk hO hk fun j hj => ⟨rfl, by unfold upd; rw [if_neg hj], rfl⟩) (by exact Nat.le_of_ble_eq_true rfl) h
  unfold ndEs upd
  rw [if_pos rfl]
  rfl
end
section
variable {prog : Program} {w : World} {A : Around} {E : Value → Shared → Prop} {s : Shared} {h₀ : Heap} {L : Addr} {news : List (Addr × Obj)} {S : RS} {st : Nat → Bool} {nx pv : Nat → Nat} {Q : Value → Shared → Prop} {i j : Nat}
theorem ring_is (N : News h₀ L s.heap news) (sub : ∀ q ∈ blk w.params S st nx pv, q ∈ news) (hO : S.Ok) (hi : i < S.n) (hj : j < S.n) (h : Q (.bool (i == j)) s) :
    wpAny (model prog w) A (compareOp .Is (.ref (S.A i)) (.ref (S.A j))) Q E s := by
  by_cases e : i = j
  · subst e
    refine wpAny_is_ref_self ?_
    simpa using h
  · refine wpAny_is_ref_other (hO.aa i j hi hj e) (N _ (sub _ (mem_a hi))).1 (N _ (sub _ (mem_a hj))).1 (by exact fun q => by cases q) ?_
    rw [beq_false_of_ne e] at h; exact h
theorem ring_isnot (N : News h₀ L s.heap news) (sub : ∀ q ∈ blk w.params S st nx pv, q ∈ news) (hO : S.Ok) (hi : i < S.n) (hj : j < S.n) (h : Q (.bool (!(i == j))) s) :
    wpAny (model prog w) A (compareOp .IsNot (.ref (S.A i)) (.ref (S.A j))) Q E s := by
  by_cases e : i = j
  · subst e
    refine wpAny_isNot_ref_self ?_
    simpa using h
  · refine wpAny_isNot_ref_other (hO.aa i j hi hj e) (N _ (sub _ (mem_a hi))).1 (N _ (sub _ (mem_a hj))).1 (by exact fun q => by cases q) ?_
    rw [beq_false_of_ne e] at h; exact h
end
theorem cmpBack_bool {Q : Value → Shared → Prop} {b : Bool} {s : Shared} (h : Q (.bool b) s) : PySem.W.CmpBack Q (.bool b) s := h
theorem cast_Q {Q : Value → Shared → Prop} {a b : Bool} {s : Shared} (h : Q (.bool a) s) (e : a = b) : Q (.bool b) s := e ▸ h
def areaV (S : RS) (i j k : Nat) : Int := (S.y j - S.y i) * (S.x k - S.x j) - (S.x j - S.x i) * (S.y k - S.y j)
end Mine
end
section
set_option maxHeartbeats 8000000
namespace Mine
theorem offT3 : True := by
  w_on
  w_top off
  exact trivial
end Mine
local macro_rules | `(tactic| ktr_rel) => `(tactic| first | with_reducible assumption | (refine' Mine.Maps.lt ?ma ?mb; (case ma => first | with_reducible assumption | (refine' Mine.Maps.upd ?mc ?md; (case mc => with_reducible assumption); (case md => ktr_rel))); (case mb => ktr_rel)))
local macro_rules | `(tactic| walk_at "getAttr ref") => `(tactic| (k_here; k_dflt (refine' Mine.ring_get ?k1 ?k2 ?k3 ?k3s ?kk ?k4 ?k5 ?k6 ?k7 ?k8 ?k9 ?_; (case k1 => k_asm); (case k2 => k_asm); (case k3 => k_asm); (case k3s => exact fun _ h => h); (case kk => ktr_rel); (case k4 => k_is); (case k5 => k_is); (case k6 => k_is); (case k7 => k_is); (case k8 => k_get); (case k9 => k_handed); k_whole)))
local macro_rules | `(tactic| walk_at "setAttr ref") => `(tactic| (k_here; k_dflt (first
  | (refine' Mine.ring_set_pv ?k1 ?k2 ?k3 ?k4 ?kk ?k6 ?k7 ?k8 ?k9 ?_; (case k1 => k_asm); (case k2 => k_asm); (case k3 => k_asm); (case k4 => k_asm); (case kk => ktr_rel); (case k6 => k_is); (case k7 => k_is); (case k8 => k_is); (case k9 => k_is); k_whole; intro h' F' N'; (try k_sweep))
  | (refine' Mine.ring_set_nx ?k1 ?k2 ?k3 ?k4 ?kk ?k6 ?k7 ?k8 ?k9 ?_; (case k1 => k_asm); (case k2 => k_asm); (case k3 => k_asm); (case k4 => k_asm); (case kk => ktr_rel); (case k6 => k_is); (case k7 => k_is); (case k8 => k_is); (case k9 => k_is); k_whole; intro h' F' N'; (try k_sweep)))))

namespace Mine
theorem fill3 : (Mine.hd.heap_39 = Mine.hd.heap_39 ∧ PySem.Challenge.rw_et5010_01 = PySem.Challenge.rw_et5010_01) := by
  k_fill
  exact ⟨rfl, rfl⟩
section
variable {prog : Program} {w : World} {A A₀ : Around} {E : Value → Shared → Prop} {s : Shared} {base h₀ : Heap} {outer : List Env} {env : Env} {L : Addr} {m : Str → Option Value} {p : Program} {loose : List Str} {mean : ExcName → Option Value} {mg mb : Str → Option Value}
  {S : RS} {st : Nat → Bool} {nx pv : Nat → Nat} {Q : Value → Shared → Prop}
theorem area_c {i j k : Nat} (B : Below A₀ base outer h₀) (F : Fr h₀ L s.heap m) (X : (Mine.hd.heap_39 w.params).In h₀) (N : News h₀ L s.heap (blk w.params S st nx pv)) (T : Top p loose mean mg mb h₀)
    (hA : A.frames = some (env :: outer)) (hf : env.frame = some L) (hke : env.scope.kind = .function) (hd : A.depth < recursionLimit) (hO : S.Ok) (hi : i < S.n) (hj : j < S.n) (hk : k < S.n)
    (hQ : ∀ h' tk tk', Fr h₀ L h' m → News h₀ L h' (blk w.params S st nx pv) → Ext s.heap h' → Q (.int (areaV S i j k) tk') { s with heap := h', toks := tk }) :
    wpAny (model prog w) A (call (.ref 70) [.ref (S.A i), .ref (S.A j), .ref (S.A k)]) Q E s := by
  refine wpAny_call ?_
  refine code_defG B F X N T hA hf hke (by k_dflt k_is) (by k_dflt k_is) hd (BindsTo.of_eq rfl) (locs rfl) ?_ rfl rfl rfl (by decide)
  intro g L' h₁ FG F' N' B' X' T' G'
  try dsimp only
  try k_fold
  have yi := hO.yy i hi
  have yj := hO.yy j hj
  have yk := hO.yy k hk
  k_steps
  exact hQ _ _ _ (by assumption) (by assumption) (elt_after (InElt.start _) G' N (by assumption) (by assumption) fun _ h => h)

theorem eq_c {i j : Nat} (B : Below A₀ base outer h₀) (F : Fr h₀ L s.heap m) (X : (Mine.hd.heap_39 w.params).In h₀) (N : News h₀ L s.heap (blk w.params S st nx pv)) (T : Top p loose mean mg mb h₀)
    (hA : A.frames = some (env :: outer)) (hf : env.frame = some L) (hke : env.scope.kind = .function) (hd : A.depth < recursionLimit) (hi : i < S.n) (hj : j < S.n)
    (hQ : ∀ h' tk, Fr h₀ L h' m → News h₀ L h' (blk w.params S st nx pv) → Ext s.heap h' → Q (.bool (S.x i == S.x j && S.y i == S.y j)) { s with heap := h', toks := tk }) :
    wpAny (model prog w) A (call (.ref 56) [.ref (S.A i), .ref (S.A j)]) Q E s := by
  refine wpAny_call ?_
  refine code_defG B F X N T hA hf hke (by k_dflt k_is) (by k_dflt k_is) hd (BindsTo.of_eq rfl) (locs rfl) ?_ rfl rfl rfl (by decide)
  intro g L' h₁ FG F' N' B' X' T' G'
  try dsimp only
  try k_fold
  k_steps
  · refine cast_Q (hQ _ _ (by assumption) (by assumption) (elt_after (InElt.start _) G' N (by assumption) (by assumption) fun _ h => h)) ?_
    rename S.x i = S.x j => hx
    rw [beq_iff_eq.mpr hx, Bool.true_and]
  · refine cast_Q (hQ _ _ (by assumption) (by assumption) (elt_after (InElt.start _) G' N (by assumption) (by assumption) fun _ h => h)) ?_
    rename ¬ S.x i = S.x j => hx
    rw [beq_false_of_ne hx, Bool.false_and]

theorem remove_c {i : Nat} (B : Below A₀ base outer h₀) (F : Fr h₀ L s.heap m) (X : (Mine.hd.heap_39 w.params).In h₀) (N : News h₀ L s.heap (blk w.params S st nx pv)) (T : Top p loose mean mg mb h₀)
    (hA : A.frames = some (env :: outer)) (hf : env.frame = some L) (hke : env.scope.kind = .function) (hd : A.depth < recursionLimit) (hO : S.Ok) (hnx : Maps S.n nx) (hpv : Maps S.n pv) (hi : i < S.n)
    (hQ : ∀ h' tk, Fr h₀ L h' m → News h₀ L h' (blk w.params S st (upd nx (pv i) (nx i)) (upd pv (nx i) (pv i))) → Q .none { s with heap := h', toks := tk }) :
    wpAny (model prog w) A (call (.ref 105) [.ref (S.A i)]) Q E s := by
  refine wpAny_call ?_
  refine code_defG B F X N T hA hf hke (by k_dflt k_is) (by k_dflt k_is) hd (BindsTo.of_eq rfl) (locs rfl) ?_ rfl rfl rfl (by decide)
  intro g L' h₁ FG F' N' B' X' T' G'
  try dsimp only
  try k_fold
  k_steps
  have e : upd pv (nx i) (pv i) i = pv i := by unfold upd; split <;> rfl
  rename News h₀ L _ (blk _ _ _ (upd _ _ _) _) => n9
  rw [e] at n9
  exact hQ _ _ (by assumption) n9
end
end Mine
end
section
set_option maxHeartbeats 8000000
namespace Mine
theorem offT4 : True := by
  w_on
  w_top off
  exact trivial
end Mine
local macro_rules | `(tactic| ktr_rel) => `(tactic| first | with_reducible assumption | (refine' Mine.Maps.lt ?ma ?mb; (case ma => first | with_reducible assumption | (refine' Mine.Maps.upd ?mc ?md; (case mc => with_reducible assumption); (case md => ktr_rel))); (case mb => ktr_rel)))
local macro_rules | `(tactic| walk_at "getAttr ref") => `(tactic| (k_here; k_dflt (refine' Mine.ring_get ?k1 ?k2 ?k3 ?k3s ?kk ?k4 ?k5 ?k6 ?k7 ?k8 ?k9 ?_; (case k1 => k_asm); (case k2 => k_asm); (case k3 => k_asm); (case k3s => exact fun _ h => h); (case kk => ktr_rel); (case k4 => k_is); (case k5 => k_is); (case k6 => k_is); (case k7 => k_is); (case k8 => k_get); (case k9 => k_handed); k_whole)))
local macro_rules | `(tactic| walk_at "compareOp Is ref ref") => `(tactic| (k_here; k_dflt (refine' Mine.ring_is ?k1 ?k2 ?k3 ?ki ?kj ?_; (case k1 => k_asm); (case k2 => exact fun _ h => h); (case k3 => k_asm); (case ki => ktr_rel); (case kj => ktr_rel); k_whole)))
local macro_rules | `(tactic| walk_at "compareOp IsNot ref ref") => `(tactic| (k_here; k_dflt (refine' Mine.ring_isnot ?k1 ?k2 ?k3 ?ki ?kj ?_; (case k1 => k_asm); (case k2 => exact fun _ h => h); (case k3 => k_asm); (case ki => ktr_rel); (case kj => ktr_rel); k_whole)))
local macro_rules | `(tactic| walk_at "compareOp Eq ref") => `(tactic| (k_here; (with_reducible show wpAny _ _ (compareOp CmpOp.Eq (Value.ref _) (Value.ref _)) _ _ _); (refine cmp_ofEq ?_); k_dflt (refine' cmp_K ?k1 ?k2 ?k3 ?k4 ?k5 ?k6 ?k7 ?k8 ?_; (case k1 => assumption); (case k2 => k_asm); (case k3 => k_asm); (case k4 => (refine' Mine.ring_inst ?ka ?kb ?kc; (case ka => k_asm); (case kb => exact fun _ h => h); (case kc => ktr_rel))); (case k5 => exact InstAt.type (Mine.ring_inst (by k_asm) (fun _ h => h) (by ktr_rel))); (case k6 => k_is); (case k7 => k_is); (case k8 => k_is); k_whole)))
local macro_rules | `(tactic| walk_at "call ref") => `(tactic| (k_here; (with_reducible show wpAny _ _ (call (Value.ref 70) _) _ _ _); k_dflt (refine' Mine.area_c ?B ?F ?X ?N ?T ?hA ?hf ?hke ?hd ?hO ?hi ?hj ?hk ?_; (case B => k_asm); (case F => k_asm); (case X => k_asm); (case N => k_asm); (case T => k_asm); (case hA => exact Around.frames_deeper (by assumption)); (case hf => exact rfl); (case hke => exact rfl); (case hd => assumption); (case hO => k_asm); (case hi => ktr_rel); (case hj => ktr_rel); (case hk => ktr_rel); k_whole; intro h' tk' tk2' F' N' e'; (try k_sweep))))
local macro_rules | `(tactic| walk_at "call ref") => `(tactic| (k_here; (with_reducible show wpAny _ _ (call (Value.ref 56) _) _ _ _); k_dflt (refine' Mine.eq_c ?B ?F ?X ?N ?T ?hA ?hf ?hke ?hd ?hi ?hj ?_; (case B => k_asm); (case F => k_asm); (case X => k_asm); (case N => k_asm); (case T => k_asm); (case hA => exact Around.frames_deeper (by assumption)); (case hf => exact rfl); (case hke => exact rfl); (case hd => assumption); (case hi => ktr_rel); (case hj => ktr_rel); k_whole; intro h' tk' F' N' e'; (refine Mine.cmpBack_bool ?_); (try dsimp only); (try k_sweep))))
local macro_rules | `(tactic| walk_at "call ref") => `(tactic| (k_here; (with_reducible show wpAny _ _ (call (Value.ref 105) _) _ _ _); k_dflt (refine' Mine.remove_c ?B ?F ?X ?N ?T ?hA ?hf ?hke ?hd ?hO ?hm ?hp ?hi ?_; (case B => k_asm); (case F => k_asm); (case X => k_asm); (case N => k_asm); (case T => k_asm); (case hA => exact Around.frames_deeper (by assumption)); (case hf => exact rfl); (case hke => exact rfl); (case hd => assumption); (case hO => k_asm); (case hm => k_asm); (case hp => k_asm); (case hi => ktr_rel); k_whole; intro h' tk' F' N'; (try k_sweep))))

namespace Mine
theorem fill4 : (Mine.hd.heap_39 = Mine.hd.heap_39 ∧ PySem.Challenge.rw_et5010_01 = PySem.Challenge.rw_et5010_01) := by
  k_fill
  exact ⟨rfl, rfl⟩
def Held (p : Prop) : Prop := p
theorem held {p : Prop} (h : Held p) : p := h
/-- a node that goes -/
def RR (S : RS) (st : Nat → Bool) (l : List Nat) : Bool := !st (l.headD 0) && decide (areaV S (l.getLastD 0) (l.headD 0) (l.getD (1 % l.length) 0) = 0)
structure FG (S : RS) (st : Nat → Bool) (r : List Nat) (n : Nat) (l : List Nat) (stop : Nat) (nx pv : Nat → Nat) : Prop where
  ne : l ≠ []
  nd : l.Nodup
  lt : ∀ x ∈ l, x < S.n
  link : Linked nx pv l
  mn : Maps S.n nx
  mp : Maps S.n pv
  sl : stop < S.n
  run : filtN (RR S st) n l stop = some r
theorem FG.hd {S : RS} {st : Nat → Bool} {r : List Nat} {n : Nat} {l : List Nat} {stop : Nat} {nx pv : Nat → Nat} (h : FG S st r n l stop nx pv) : l.headD 0 < S.n := by
  match l, h.ne, h.lt with
  | a :: t, _, h => exact h a (.head _)
theorem RR_of {S : RS} {st : Nat → Bool} {l : List Nat} {nx pv : Nat → Nat} (h : Linked nx pv l) : RR S st l = (!st (l.headD 0) && decide (areaV S (pv (l.headD 0)) (l.headD 0) (nx (l.headD 0)) = 0)) := by
  unfold RR; rw [linked_pv h, linked_nx h]
theorem area_eq {S : RS} {i j k : Nat} (h : (S.x j == S.x k && S.y j == S.y k) = true) : areaV S i j k = 0 := by
  simp only [Bool.and_eq_true, beq_iff_eq] at h
  unfold areaV
  rw [h.1, h.2]; simp
theorem head_fwd {nx pv : Nat → Nat} {l : List Nat} (h : Linked nx pv l) : (fwd l).headD 0 = nx (l.headD 0) := by
  match l, h with
  | [a], h => exact h.1.symm
  | a :: b :: t, h => exact h.1.1.symm
theorem head_back {nx pv : Nat → Nat} {l : List Nat} (h : Linked nx pv l) : (back l).headD 0 = pv (l.headD 0) := (linked_pv h).symm
theorem nx_one {nx pv : Nat → Nat} {l : List Nat} (h : Linked nx pv l) (hn : l.Nodup) : nx (l.headD 0) = l.headD 0 ↔ l.length = 1 := by
  match l, h with
  | [a], h => exact ⟨fun _ => rfl, fun _ => h.1⟩
  | a :: b :: t, h =>
    refine ⟨fun e => ?_, fun e => by simp at e⟩
    have e1 : nx a = b := h.1.1
    have e2 : nx a = a := e
    rw [List.nodup_cons] at hn
    exact absurd (e1.symm.trans e2 ▸ List.Mem.head _) hn.1
theorem FG.pass {S : RS} {st : Nat → Bool} {r : List Nat} {n : Nat} {l : List Nat} {stop : Nat} {nx pv : Nat → Nat} (G : FG S st r n l stop nx pv) (hR : RR S st l = false) :
    ∃ n', n' < n ∧ (fwd l).headD 0 = nx (l.headD 0) ∧ (nx (l.headD 0) = stop → r = fwd l ∧ r.headD 0 = stop ∧ Linked nx pv r) ∧ (nx (l.headD 0) ≠ stop → FG S st r n' (fwd l) stop nx pv) := by
  obtain ⟨ne, nd, lt, link, mn, mp, sl, run⟩ := G
  have hh := head_fwd link
  match n, run with
  | k + 1, run =>
    refine ⟨k, Nat.lt_succ_self _, hh, fun e => ?_, fun e => ?_⟩
    · unfold filtN at run
      rw [if_neg (by rw [hR]; decide), if_pos (hh.trans e)] at run
      cases run
      exact ⟨rfl, hh.trans e, linked_fwd link⟩
    · unfold filtN at run
      rw [if_neg (by rw [hR]; decide), if_neg (fun q => e (hh.symm.trans q))] at run
      exact ⟨fwd_ne, nodup_fwd ne nd, fun x hx => lt x ((mem_fwd ne).mp hx), linked_fwd link, mn, mp, sl, run⟩
theorem FG.gone {S : RS} {st : Nat → Bool} {r : List Nat} {n : Nat} {l : List Nat} {stop : Nat} {nx pv : Nat → Nat} (G : FG S st r n l stop nx pv) (hR : RR S st l = true) :
    ∃ n', n' < n ∧ (back l).headD 0 = pv (l.headD 0) ∧ Maps S.n (upd nx (pv (l.headD 0)) (nx (l.headD 0))) ∧ Maps S.n (upd pv (nx (l.headD 0)) (pv (l.headD 0))) ∧ Linked (upd nx (pv (l.headD 0)) (nx (l.headD 0))) (upd pv (nx (l.headD 0)) (pv (l.headD 0))) (back l) ∧
      (pv (l.headD 0) = upd nx (pv (l.headD 0)) (nx (l.headD 0)) (pv (l.headD 0)) → r = back l) ∧
      (pv (l.headD 0) ≠ upd nx (pv (l.headD 0)) (nx (l.headD 0)) (pv (l.headD 0)) → FG S st r n' (back l) (pv (l.headD 0)) (upd nx (pv (l.headD 0)) (nx (l.headD 0))) (upd pv (nx (l.headD 0)) (pv (l.headD 0)))) := by
  have hl := G.hd
  obtain ⟨ne, nd, lt, link, mn, mp, sl, run⟩ := G
  have hh := head_back link
  have nd' := nodup_back ne nd
  have mn' := Maps.upd (i := pv (l.headD 0)) mn (mn.lt hl)
  have mp' := Maps.upd (i := nx (l.headD 0)) mp (mp.lt hl)
  have link' := linked_back link nd
  have one := nx_one link' nd'
  rw [hh] at one
  match n, run with
  | k + 1, run =>
    unfold filtN at run
    rw [if_pos hR] at run
    refine ⟨k, Nat.lt_succ_self _, hh, mn', mp', link', fun e => ?_, fun e => ?_⟩
    · rw [if_pos (one.mp e.symm)] at run
      cases run; rfl
    · rw [if_neg (fun q => e (one.mpr q).symm), hh] at run
      exact ⟨back_ne, nd', fun x hx => lt x (mem_back ne hx), link', mn', mp', mp.lt hl, run⟩
theorem upd_at {f : Nat → Nat} {a i : Nat} : upd f a (f i) i = f i := by unfold upd; split <;> rfl
theorem wstep_next {h₀ : Heap} {L : Addr} {s : Shared} {J : Nat → (Str → Option Value) → List (Addr × Obj) → Prop} {Q : Flow → Shared → Prop} {n : Nat} {h' : Heap} {tk : Nat} {m₂ : Str → Option Value} {news₂ : List (Addr × Obj)} {n' : Nat}
    (F : Fr h₀ L h' m₂) (N : News h₀ L h' news₂) (hn : n' < n) (hJ : J n' m₂ news₂) : WhileStep2 h₀ L s J Q n .next { s with heap := h', toks := tk } := ⟨h', tk, m₂, news₂, n', rfl, F, N, hn, hJ⟩
theorem wstep_brk {h₀ : Heap} {L : Addr} {s s₃ : Shared} {J : Nat → (Str → Option Value) → List (Addr × Obj) → Prop} {Q : Flow → Shared → Prop} {n : Nat} (h : Q .next s₃) : WhileStep2 h₀ L s J Q n .brk s₃ := h
theorem gsub_after {h g h' : Heap} {L' : Addr} {m' : Str → Option Value} {as : List Addr} (G : GSub h g as) (F : Fr g L' h' m') : GSub h h' as := fun b o e hb => F.keep b o (G b o e hb)
def FJ (P : Params) (S : RS) (st : Nat → Bool) (r : List Nat) (n : Nat) (m : Str → Option Value) (nws : List (Addr × Obj)) : Prop :=
  ∃ l stop nx pv, nws = blk P S st nx pv ∧ m (Str.ofString "p") = some (.ref (S.A (l.headD 0))) ∧ m (Str.ofString "end") = some (.ref (S.A stop)) ∧ FG S st r n l stop nx pv
end Mine
local macro_rules | `(tactic| walk_at "exec While") => `(tactic| refine Mine.held ?_)

namespace Mine
section
variable {prog : Program} {w : World} {A A₀ : Around} {E : Value → Shared → Prop} {s : Shared} {base h₀ : Heap} {outer : List Env} {env : Env} {L : Addr} {m : Str → Option Value} {p : Program} {loose : List Str} {mean : ExcName → Option Value} {mg mb : Str → Option Value}
  {S : RS} {st : Nat → Bool} {nx pv : Nat → Nat} {Q : Value → Shared → Prop}

theorem filter_c2 {n : Nat} {l r : List Nat} {stop : Nat} (B : Below A₀ base outer h₀) (F : Fr h₀ L s.heap m) (X : (Mine.hd.heap_39 w.params).In h₀) (N : News h₀ L s.heap (blk w.params S st nx pv)) (T : Top p loose mean mg mb h₀)
    (hA : A.frames = some (env :: outer)) (hf : env.frame = some L) (hke : env.scope.kind = .function) (hd : A.depth < recursionLimit) (hd1 : A.depth + 1 < recursionLimit) (hu : A.units + 3 < cLine) (hO : S.Ok) (G : FG S st r n l stop nx pv)
    (hQ : ∀ h' tk nx' pv', Fr h₀ L h' m → News h₀ L h' (blk w.params S st nx' pv') → GSub s.heap h' ((blk w.params S st nx pv).map (·.1)) → Linked nx' pv' r → Maps S.n nx' → Maps S.n pv' → Q (.ref (S.A (r.headD 0))) { s with heap := h', toks := tk }) :
    wpAny (model prog w) A (call (.ref 113) [.ref (S.A (l.headD 0)), .ref (S.A stop)]) Q E s := by
  have hl := G.hd
  have hsl := G.sl
  generalize hi : l.headD 0 = i at hl
  refine wpAny_call ?_
  refine' code_defG B F X N T hA hf hke ?k6 ?k7 hd ?k9 ?kB ?_ ?c2 ?c3 ?c4 ?c5
  (case k6 => k_dflt k_is)
  (case k7 => k_dflt k_is)
  (case k9 => k_dflt (first | exact BindsTo.of_eq rfl | exact binds_K (X.keeps F.keep) rfl (by k_is) rfl rfl rfl))
  (case c5 => decide)
  (case kB => exact locs rfl)
  (case c2 => exact rfl)
  (case c3 => exact rfl)
  (case c4 => exact rfl)
  intro g L' h₁ FG F' N' B' X' T' G'
  try dsimp only
  try k_fold
  k_steps
  rename Fr g L' _ _ => Fw
  rename News g L' _ _ => Nw
  unfold Held
  refine While_inv2 (FJ w.params S st r) Fw Nw (n₀ := n) ⟨l, stop, nx, pv, rfl, by rw [hi]; rfl, rfl, G⟩ ?_
  clear Fw Nw
  rintro n₁ m₁ nws h₂ tk₂ F₂ N₂ ⟨l₁, stop₁, nx₁, pv₁, rfl, hp, he, G₁⟩
  have hl₁ := G₁.hd
  have hsl₁ := G₁.sl
  have hnx := G₁.mn
  have hpv := G₁.mp
  generalize hi₁ : l₁.headD 0 = i₁ at hl₁ hp
  have e : (fun y => if y = Str.ofString "p" then some (.ref (S.A i₁)) else if y = Str.ofString "end" then some (.ref (S.A stop₁)) else m₁ y) = m₁ := by
    funext y
    by_cases h1 : y = Str.ofString "p"
    · rw [if_pos h1, h1, hp]
    · rw [if_neg h1]
      by_cases h2 : y = Str.ofString "end"
      · rw [if_pos h2, h2, he]
      · rw [if_neg h2]
  rw [← e] at F₂
  clear e
  k_steps
  · rename st i₁ = true => h1
    have hR : RR S st l₁ = false := by rw [RR_of G₁.link, hi₁, h1]; rfl
    rename (nx₁ i₁ == stop₁) = true => h2
    obtain ⟨n', hn', hh, kb, kc⟩ := G₁.pass hR
    rw [hi₁] at kb
    obtain ⟨er, eh, hlk⟩ := kb (beq_iff_eq.mp h2)
    rw [eh] at hQ
    dsimp only
    refine wstep_brk ?_
    dsimp only
    k_steps
    exact hQ _ _ _ _ (by assumption) (by assumption) (gsub_after G' (by assumption)) hlk hnx hpv
  · rename st i₁ = true => h1
    have hR : RR S st l₁ = false := by rw [RR_of G₁.link, hi₁, h1]; rfl
    rename (nx₁ i₁ == stop₁) = false => h2
    obtain ⟨n', hn', hh, kb, kc⟩ := G₁.pass hR
    rw [hi₁] at kc hh
    have G₂ := kc (ne_of_beq_false h2)
    exact wstep_next (by assumption) (by assumption) hn' ⟨_, _, _, _, rfl, by rw [hh]; rfl, rfl, G₂⟩
  · rename st i₁ = false => h1
    rename (S.x i₁ == S.x (nx₁ i₁) && S.y i₁ == S.y (nx₁ i₁)) = true => h3
    have hR : RR S st l₁ = true := by rw [RR_of G₁.link, hi₁, h1, area_eq h3]; rfl
    rename (upd pv₁ (nx₁ i₁) (pv₁ i₁) i₁ == _) = true => h2
    rw [upd_at, beq_iff_eq] at h2
    obtain ⟨n', hn', hh, hmn, hmp, hlk, kb, kc⟩ := G₁.gone hR
    rw [hi₁] at hh hmn hmp hlk kb
    have er := kb h2
    rw [← er] at hh hlk
    rw [hh] at hQ
    dsimp only
    refine wstep_brk ?_
    rw [upd_at] at *
    dsimp only
    k_steps
    exact hQ _ _ _ _ (by assumption) (by assumption) (gsub_after G' (by assumption)) hlk hmn hmp
  · rename st i₁ = false => h1
    rename (S.x i₁ == S.x (nx₁ i₁) && S.y i₁ == S.y (nx₁ i₁)) = true => h3
    have hR : RR S st l₁ = true := by rw [RR_of G₁.link, hi₁, h1, area_eq h3]; rfl
    rename (upd pv₁ (nx₁ i₁) (pv₁ i₁) i₁ == _) = false => h2
    rw [upd_at] at h2
    obtain ⟨n', hn', hh, hmn, hmp, hlk, kb, kc⟩ := G₁.gone hR
    rw [hi₁] at hh kc
    have G₂ := kc (ne_of_beq_false h2)
    exact wstep_next (by assumption) (by assumption) hn' ⟨_, _, _, _, rfl, by rw [hh, upd_at]; rfl, by rw [upd_at]; rfl, G₂⟩
  · rename st i₁ = false => h1
    rename areaV S (pv₁ i₁) i₁ (nx₁ i₁) = 0 => h3
    have hR : RR S st l₁ = true := by rw [RR_of G₁.link, hi₁, h1, h3]; rfl
    rename (upd pv₁ (nx₁ i₁) (pv₁ i₁) i₁ == _) = true => h2
    rw [upd_at, beq_iff_eq] at h2
    obtain ⟨n', hn', hh, hmn, hmp, hlk, kb, kc⟩ := G₁.gone hR
    rw [hi₁] at hh hmn hmp hlk kb
    have er := kb h2
    rw [← er] at hh hlk
    rw [hh] at hQ
    dsimp only
    refine wstep_brk ?_
    rw [upd_at] at *
    dsimp only
    k_steps
    exact hQ _ _ _ _ (by assumption) (by assumption) (gsub_after G' (by assumption)) hlk hmn hmp
  · rename st i₁ = false => h1
    rename areaV S (pv₁ i₁) i₁ (nx₁ i₁) = 0 => h3
    have hR : RR S st l₁ = true := by rw [RR_of G₁.link, hi₁, h1, h3]; rfl
    rename (upd pv₁ (nx₁ i₁) (pv₁ i₁) i₁ == _) = false => h2
    rw [upd_at] at h2
    obtain ⟨n', hn', hh, hmn, hmp, hlk, kb, kc⟩ := G₁.gone hR
    rw [hi₁] at hh kc
    have G₂ := kc (ne_of_beq_false h2)
    exact wstep_next (by assumption) (by assumption) hn' ⟨_, _, _, _, rfl, by rw [hh, upd_at]; rfl, by rw [upd_at]; rfl, G₂⟩
  · rename st i₁ = false => h1
    rename areaV S (pv₁ i₁) i₁ (nx₁ i₁) ≠ 0 => h3
    have hR : RR S st l₁ = false := by rw [RR_of G₁.link, hi₁, h1, decide_eq_false h3]; rfl
    rename (nx₁ i₁ == stop₁) = true => h2
    obtain ⟨n', hn', hh, kb, kc⟩ := G₁.pass hR
    rw [hi₁] at kb
    obtain ⟨er, eh, hlk⟩ := kb (beq_iff_eq.mp h2)
    rw [eh] at hQ
    dsimp only
    refine wstep_brk ?_
    dsimp only
    k_steps
    exact hQ _ _ _ _ (by assumption) (by assumption) (gsub_after G' (by assumption)) hlk hnx hpv
  · rename st i₁ = false => h1
    rename areaV S (pv₁ i₁) i₁ (nx₁ i₁) ≠ 0 => h3
    have hR : RR S st l₁ = false := by rw [RR_of G₁.link, hi₁, h1, decide_eq_false h3]; rfl
    rename (nx₁ i₁ == stop₁) = false => h2
    obtain ⟨n', hn', hh, kb, kc⟩ := G₁.pass hR
    rw [hi₁] at kc hh
    have G₂ := kc (ne_of_beq_false h2)
    exact wstep_next (by assumption) (by assumption) hn' ⟨_, _, _, _, rfl, by rw [hh]; rfl, rfl, G₂⟩
theorem filter_c1 {n : Nat} {l r : List Nat} (B : Below A₀ base outer h₀) (F : Fr h₀ L s.heap m) (X : (Mine.hd.heap_39 w.params).In h₀) (N : News h₀ L s.heap (blk w.params S st nx pv)) (T : Top p loose mean mg mb h₀)
    (hA : A.frames = some (env :: outer)) (hf : env.frame = some L) (hke : env.scope.kind = .function) (hd : A.depth < recursionLimit) (hd1 : A.depth + 1 < recursionLimit) (hu : A.units + 3 < cLine) (hO : S.Ok) (G : FG S st r n l (l.headD 0) nx pv)
    (hQ : ∀ h' tk nx' pv', Fr h₀ L h' m → News h₀ L h' (blk w.params S st nx' pv') → GSub s.heap h' ((blk w.params S st nx pv).map (·.1)) → Linked nx' pv' r → Maps S.n nx' → Maps S.n pv' → Q (.ref (S.A (r.headD 0))) { s with heap := h', toks := tk }) :
    wpAny (model prog w) A (call (.ref 113) [.ref (S.A (l.headD 0))]) Q E s := by
  have hl := G.hd
  generalize hi : l.headD 0 = i at hl G
  refine wpAny_call ?_
  refine' code_defG B F X N T hA hf hke ?k6 ?k7 hd ?k9 ?kB ?_ ?c2 ?c3 ?c4 ?c5
  (case k6 => k_dflt k_is)
  (case k7 => k_dflt k_is)
  (case k9 => k_dflt (first | exact BindsTo.of_eq rfl | exact binds_K (X.keeps F.keep) rfl (by k_is) rfl rfl rfl))
  (case c5 => decide)
  (case kB => exact locs rfl)
  (case c2 => exact rfl)
  (case c3 => exact rfl)
  (case c4 => exact rfl)
  intro g L' h₁ FG F' N' B' X' T' G'
  try dsimp only
  try k_fold
  k_steps
  rename Fr g L' _ _ => Fw
  rename News g L' _ _ => Nw
  unfold Held
  refine While_inv2 (FJ w.params S st r) Fw Nw (n₀ := n) ⟨l, i, nx, pv, rfl, by rw [hi]; rfl, rfl, G⟩ ?_
  clear Fw Nw
  rintro n₁ m₁ nws h₂ tk₂ F₂ N₂ ⟨l₁, stop₁, nx₁, pv₁, rfl, hp, he, G₁⟩
  have hl₁ := G₁.hd
  have hsl₁ := G₁.sl
  have hnx := G₁.mn
  have hpv := G₁.mp
  generalize hi₁ : l₁.headD 0 = i₁ at hl₁ hp
  have e : (fun y => if y = Str.ofString "p" then some (.ref (S.A i₁)) else if y = Str.ofString "end" then some (.ref (S.A stop₁)) else m₁ y) = m₁ := by
    funext y
    by_cases h1 : y = Str.ofString "p"
    · rw [if_pos h1, h1, hp]
    · rw [if_neg h1]
      by_cases h2 : y = Str.ofString "end"
      · rw [if_pos h2, h2, he]
      · rw [if_neg h2]
  rw [← e] at F₂
  clear e
  k_steps
  · rename st i₁ = true => h1
    have hR : RR S st l₁ = false := by rw [RR_of G₁.link, hi₁, h1]; rfl
    rename (nx₁ i₁ == stop₁) = true => h2
    obtain ⟨n', hn', hh, kb, kc⟩ := G₁.pass hR
    rw [hi₁] at kb
    obtain ⟨er, eh, hlk⟩ := kb (beq_iff_eq.mp h2)
    rw [eh] at hQ
    dsimp only
    refine wstep_brk ?_
    dsimp only
    k_steps
    exact hQ _ _ _ _ (by assumption) (by assumption) (gsub_after G' (by assumption)) hlk hnx hpv
  · rename st i₁ = true => h1
    have hR : RR S st l₁ = false := by rw [RR_of G₁.link, hi₁, h1]; rfl
    rename (nx₁ i₁ == stop₁) = false => h2
    obtain ⟨n', hn', hh, kb, kc⟩ := G₁.pass hR
    rw [hi₁] at kc hh
    have G₂ := kc (ne_of_beq_false h2)
    exact wstep_next (by assumption) (by assumption) hn' ⟨_, _, _, _, rfl, by rw [hh]; rfl, rfl, G₂⟩
  · rename st i₁ = false => h1
    rename (S.x i₁ == S.x (nx₁ i₁) && S.y i₁ == S.y (nx₁ i₁)) = true => h3
    have hR : RR S st l₁ = true := by rw [RR_of G₁.link, hi₁, h1, area_eq h3]; rfl
    rename (upd pv₁ (nx₁ i₁) (pv₁ i₁) i₁ == _) = true => h2
    rw [upd_at, beq_iff_eq] at h2
    obtain ⟨n', hn', hh, hmn, hmp, hlk, kb, kc⟩ := G₁.gone hR
    rw [hi₁] at hh hmn hmp hlk kb
    have er := kb h2
    rw [← er] at hh hlk
    rw [hh] at hQ
    dsimp only
    refine wstep_brk ?_
    rw [upd_at] at *
    dsimp only
    k_steps
    exact hQ _ _ _ _ (by assumption) (by assumption) (gsub_after G' (by assumption)) hlk hmn hmp
  · rename st i₁ = false => h1
    rename (S.x i₁ == S.x (nx₁ i₁) && S.y i₁ == S.y (nx₁ i₁)) = true => h3
    have hR : RR S st l₁ = true := by rw [RR_of G₁.link, hi₁, h1, area_eq h3]; rfl
    rename (upd pv₁ (nx₁ i₁) (pv₁ i₁) i₁ == _) = false => h2
    rw [upd_at] at h2
    obtain ⟨n', hn', hh, hmn, hmp, hlk, kb, kc⟩ := G₁.gone hR
    rw [hi₁] at hh kc
    have G₂ := kc (ne_of_beq_false h2)
    exact wstep_next (by assumption) (by assumption) hn' ⟨_, _, _, _, rfl, by rw [hh, upd_at]; rfl, by rw [upd_at]; rfl, G₂⟩
  · rename st i₁ = false => h1
    rename areaV S (pv₁ i₁) i₁ (nx₁ i₁) = 0 => h3
    have hR : RR S st l₁ = true := by rw [RR_of G₁.link, hi₁, h1, h3]; rfl
    rename (upd pv₁ (nx₁ i₁) (pv₁ i₁) i₁ == _) = true => h2
    rw [upd_at, beq_iff_eq] at h2
    obtain ⟨n', hn', hh, hmn, hmp, hlk, kb, kc⟩ := G₁.gone hR
    rw [hi₁] at hh hmn hmp hlk kb
    have er := kb h2
    rw [← er] at hh hlk
    rw [hh] at hQ
    dsimp only
    refine wstep_brk ?_
    rw [upd_at] at *
    dsimp only
    k_steps
    exact hQ _ _ _ _ (by assumption) (by assumption) (gsub_after G' (by assumption)) hlk hmn hmp
  · rename st i₁ = false => h1
    rename areaV S (pv₁ i₁) i₁ (nx₁ i₁) = 0 => h3
    have hR : RR S st l₁ = true := by rw [RR_of G₁.link, hi₁, h1, h3]; rfl
    rename (upd pv₁ (nx₁ i₁) (pv₁ i₁) i₁ == _) = false => h2
    rw [upd_at] at h2
    obtain ⟨n', hn', hh, hmn, hmp, hlk, kb, kc⟩ := G₁.gone hR
    rw [hi₁] at hh kc
    have G₂ := kc (ne_of_beq_false h2)
    exact wstep_next (by assumption) (by assumption) hn' ⟨_, _, _, _, rfl, by rw [hh, upd_at]; rfl, by rw [upd_at]; rfl, G₂⟩
  · rename st i₁ = false => h1
    rename areaV S (pv₁ i₁) i₁ (nx₁ i₁) ≠ 0 => h3
    have hR : RR S st l₁ = false := by rw [RR_of G₁.link, hi₁, h1, decide_eq_false h3]; rfl
    rename (nx₁ i₁ == stop₁) = true => h2
    obtain ⟨n', hn', hh, kb, kc⟩ := G₁.pass hR
    rw [hi₁] at kb
    obtain ⟨er, eh, hlk⟩ := kb (beq_iff_eq.mp h2)
    rw [eh] at hQ
    dsimp only
    refine wstep_brk ?_
    dsimp only
    k_steps
    exact hQ _ _ _ _ (by assumption) (by assumption) (gsub_after G' (by assumption)) hlk hnx hpv
  · rename st i₁ = false => h1
    rename areaV S (pv₁ i₁) i₁ (nx₁ i₁) ≠ 0 => h3
    have hR : RR S st l₁ = false := by rw [RR_of G₁.link, hi₁, h1, decide_eq_false h3]; rfl
    rename (nx₁ i₁ == stop₁) = false => h2
    obtain ⟨n', hn', hh, kb, kc⟩ := G₁.pass hR
    rw [hi₁] at kc hh
    have G₂ := kc (ne_of_beq_false h2)
    exact wstep_next (by assumption) (by assumption) hn' ⟨_, _, _, _, rfl, by rw [hh]; rfl, rfl, G₂⟩
end
end Mine
end
section
set_option maxHeartbeats 8000000
namespace Mine
theorem offT5 : True := by
  w_on
  w_top off
  exact trivial
end Mine
namespace Mine
theorem fill5 : (Mine.hd.heap_39 = Mine.hd.heap_39 ∧ PySem.Challenge.rw_et5010_01 = PySem.Challenge.rw_et5010_01) := by
  k_fill
  exact ⟨rfl, rfl⟩

/-- values that are these numbers -/
inductive Nums : List Value → List Nat → Prop
  | nil : Nums [] []
  | cons (k : Nat) (t : Tok) {vs l} : Nums vs l → Nums (.int (k : Int) t :: vs) (k :: l)
theorem Nums.len {vs : List Value} {l : List Nat} (h : Nums vs l) : vs.length = l.length := by
  induction h with
  | nil => rfl
  | cons k t _ ih => simp [ih]
theorem Nums.get {vs : List Value} {l : List Nat} (h : Nums vs l) : ∀ {j : Nat}, j < l.length → ∃ t, vs[j]? = some (.int ((l.getD j 0 : Nat) : Int) t) := by
  induction h with
  | nil => intro j hj; exact absurd hj (Nat.not_lt_zero _)
  | cons k t _ ih =>
    intro j hj
    match j with
    | 0 => exact ⟨t, rfl⟩
    | j + 1 => obtain ⟨t', e⟩ := ih (j := j) (Nat.lt_of_succ_lt_succ hj); exact ⟨t', e⟩
theorem Nums.app {vs ws : List Value} {l k : List Nat} (h : Nums vs l) (h' : Nums ws k) : Nums (vs ++ ws) (l ++ k) := by
  induction h with
  | nil => exact h'
  | cons k t _ ih => exact .cons k t ih
theorem Nums.drop {vs : List Value} {l : List Nat} (h : Nums vs l) : ∀ {j : Nat}, Nums (vs.drop j) (l.drop j) := by
  induction h with
  | nil => intro j; simp; exact .nil
  | cons k t h ih =>
    intro j
    match j with
    | 0 => exact .cons k t h
    | j + 1 => exact ih
theorem Nums.take {vs : List Value} {l : List Nat} (h : Nums vs l) : ∀ {j : Nat}, Nums (vs.take j) (l.take j) := by
  induction h with
  | nil => intro j; simp; exact .nil
  | cons k t h ih =>
    intro j
    match j with
    | 0 => exact .nil
    | j + 1 => exact .cons k t ih

def Off (news : List (Addr × Obj)) (c : Addr) : Prop := ∀ p ∈ news, p.1 ≠ c
abbrev lst (vs : List Value) : Obj := { cls := .type "list", data := .seq vs.toArray }

section
variable {prog : Program} {w : World} {A : Around} {E : Value → Shared → Prop} {s : Shared} {value slice : Expr} {a : Addr} {vs : List Value} {l : List Nat} {u : Tok} {Q : Value → Shared → Prop}
theorem item_num {k : Int} {j : Nat} (hl : s.heap.IsList a vs.toArray) (hv : Nums vs l) (hk : k = (j : Int)) (hj : j < l.length) (hsz : l.length ≤ 1000) (h : ∀ t, Q (.int ((l.getD j 0 : Nat) : Int) t) s)
    (hs : subscripted slice false (.ref a) (.int k u) = operate [.ref a, .int k u] (getItem (.ref a) (.int k u)) := by with_unfolding_all rfl) :
    wpAny (model prog w) A (subscriptTail value slice (.ref a) (.int k u)) Q E s := by
  subst hk
  obtain ⟨t, e⟩ := hv.get hj
  exact tail_any hl.typeIs slot_list_getitem.lookup (wpAny_getItem_list hl (by omega) (by omega) (by simpa using e) (h t)) hs
theorem item_last (hl : s.heap.IsList a vs.toArray) (hv : Nums vs l) (hj : l ≠ []) (hsz : l.length ≤ 1000) (h : ∀ t, Q (.int ((l.getLastD 0 : Nat) : Int) t) s)
    (hs : subscripted slice false (.ref a) (.int (-1) u) = operate [.ref a, .int (-1) u] (getItem (.ref a) (.int (-1) u)) := by with_unfolding_all rfl) :
    wpAny (model prog w) A (subscriptTail value slice (.ref a) (.int (-1) u)) Q E s := by
  have h0 : 0 < l.length := List.length_pos_iff.mpr hj
  obtain ⟨t, e⟩ := hv.get (j := l.length - 1) (by omega)
  have e2 : l.getD (l.length - 1) 0 = l.getLastD 0 := by
    rw [List.getLastD_eq_getLast?, List.getLast?_eq_getElem?, List.getD_eq_getElem?_getD]
  rw [e2] at e
  have hz := hv.len
  refine tail_any hl.typeIs slot_list_getitem.lookup (wpAny_getItem_list_neg hl (by omega) (by rw [List.size_toArray]; omega) (by omega) ?_ (h t)) hs
  rw [List.size_toArray, hz]
  have : ((-1 : Int) + (l.length : Int)).toNat = l.length - 1 := by omega
  rw [this]
  simpa using e
theorem item_fun {n : Nat} {f : Nat → Value} {k : Nat} (hl : s.heap.IsList a ((List.range n).map f).toArray) (hk : k < n) (hsz : n ≤ 1000) (h : Q (f k) s)
    (hs : subscripted slice false (.ref a) (.int (k : Int) u) = operate [.ref a, .int (k : Int) u] (getItem (.ref a) (.int (k : Int) u)) := by with_unfolding_all rfl) :
    wpAny (model prog w) A (subscriptTail value slice (.ref a) (.int (k : Int) u)) Q E s := by
  refine tail_any hl.typeIs slot_list_getitem.lookup (wpAny_getItem_list hl (by omega) (by omega) ?_ h) hs
  simp [hk]
end
theorem Heap.IsList.fr {base h : Heap} {L a : Addr} {m : Str → Option Value} {its : Array Value} (H : base.IsList a its) (F : Fr base L h m) : h.IsList a its := H.at fun o e => F.keep _ o e
theorem sp_from {vs : List Value} {l : List Nat} (hv : Nums vs l) : slicePick vs.toArray (some 1) none none = (vs.drop 1).toArray ∧ Nums (vs.drop 1) (l.drop 1) := ⟨slicePick_from' vs.toArray 1, hv.drop⟩
theorem sp_upto {vs : List Value} {l : List Nat} (hv : Nums vs l) : slicePick vs.toArray none (some 1) none = (vs.take 1).toArray ∧ Nums (vs.take 1) (l.take 1) := ⟨slicePick_upto' vs.toArray 1, hv.take⟩
theorem sp_last {vs : List Value} {l : List Nat} (hv : Nums vs l) : slicePick vs.toArray (some (-1)) none none = (vs.drop (l.length - 1)).toArray ∧ Nums (vs.drop (l.length - 1)) (l.drop (l.length - 1)) := by
  refine ⟨?_, hv.drop⟩
  have e := slicePick_last vs.toArray 1 (by decide)
  rw [List.size_toArray, hv.len] at e
  exact e
theorem sp_mid {vs : List Value} {l : List Nat} (hv : Nums vs l) : slicePick vs.toArray (some 1) (some (-1)) none = ((vs.drop 1).take (l.length - 2)).toArray ∧ Nums ((vs.drop 1).take (l.length - 2)) ((l.drop 1).take (l.length - 2)) := by
  refine ⟨?_, hv.drop.take⟩
  rw [slicePick_plain]
  have e1 : clipAt vs.toArray.size 1 = min 1 vs.toArray.size := clipAt_nat _ 1
  have e2 : clipAt vs.toArray.size (-1) = vs.toArray.size - 1 := clipAt_neg _ 1 (by decide)
  rw [List.size_toArray, hv.len] at e1 e2
  simp only [Option.elim, List.size_toArray, hv.len, e1, e2]
  by_cases h : 1 ≤ l.length
  · rw [Nat.min_eq_left h, show l.length - 1 - 1 = l.length - 2 by omega]
  · have : l.length = 0 := by omega
    have hv0 : vs = [] := List.length_eq_zero_iff.mp (hv.len.trans this)
    rw [hv0]; simp
theorem back_eq {l : List Nat} (h : l ≠ []) : l.drop (l.length - 1) ++ (l.drop 1).take (l.length - 2) = back l := by
  match l, h with
  | a :: t, _ =>
    rcases List.eq_nil_or_concat t with rfl | ⟨t', z, rfl⟩
    · rfl
    · rw [List.concat_eq_append, back_concat]
      have e1 : (a :: (t' ++ [z])).drop ((a :: (t' ++ [z])).length - 1) = [z] := by
        have : (a :: (t' ++ [z])).length - 1 = (a :: t').length := by simp
        rw [this, show a :: (t' ++ [z]) = (a :: t') ++ [z] from rfl, List.drop_left]
      have e2 : ((a :: (t' ++ [z])).drop 1).take ((a :: (t' ++ [z])).length - 2) = t' := by
        have : (a :: (t' ++ [z])).length - 2 = t'.length := by simp
        rw [this]
        show (t' ++ [z]).take t'.length = t'
        rw [List.take_left]
      rw [e1, e2]; rfl
theorem fwd_eq {l : List Nat} (h : l ≠ []) : l.drop 1 ++ l.take 1 = fwd l := by
  match l, h with
  | a :: t, _ => rfl
theorem len_back_le {l : List Nat} (h : l ≠ []) : (back l).length ≤ l.length := by
  match l, h with
  | [a], _ => exact Nat.le_refl _
  | a :: b :: t, _ => have := len_back (l := a :: b :: t) (by simp); omega
section
variable {prog : Program} {w : World} {A : Around} {E : Value → Shared → Prop} {s : Shared} {value slice : Expr} {a b : Addr} {vs ws : List Value} {l l' : List Nat} {Q : Value → Shared → Prop} {h₀ : Heap} {L : Addr} {m : Str → Option Value} {news : List (Addr × Obj)}
theorem slice_num {vl vu : Value} {lo hi : Option Int} (F : Fr h₀ L s.heap m) (N : News h₀ L s.heap news) (hm : (a, lst vs) ∈ news) (hv : Nums vs l) (hsz : l.length ≤ 1000) (pl : IsPart vl lo) (pu : IsPart vu hi)
    (e : slicePick vs.toArray lo hi none = ws.toArray ∧ Nums ws l')
    (h : ∀ h' b, Fr h₀ L h' m → News h₀ L h' ((b, lst ws) :: news) → Nums ws l' → Q (.ref b) { s with heap := h' })
    (hs : subscripted slice false (.ref a) (.ref s.heap.objs.size) = operate [.ref s.heap.objs.size, .ref a] (getItem (.ref a) (.ref s.heap.objs.size)) := by with_unfolding_all rfl)
    (ht : ∀ r, letTemporaryGo value (.ref a) r = pure () := by intro _; with_unfolding_all rfl) :
    wpAny (model prog w) A (subscriptTail value slice (.ref a) (.ref s.heap.objs.size)) Q E { s with heap := s.heap.push { cls := .type "slice", data := .fields #[vl, vu, .none] } } := by
  refine slice_list F N (News.isList N hm) pl pu (fun h' F' N' => ?_) hs ht (by rw [List.size_toArray, hv.len, sizeLine_eq]; omega)
  rw [e.1] at N'
  exact h h' _ F' N' e.2
theorem add_back {vs1 vs2 : List Value} (F : Fr h₀ L s.heap m) (N : News h₀ L s.heap news) (h1 : (a, lst vs1) ∈ news) (h2 : (b, lst vs2) ∈ news) (n1 : Nums vs1 (l.drop (l.length - 1))) (n2 : Nums vs2 ((l.drop 1).take (l.length - 2))) (hne : l ≠ []) (hsz : l.length ≤ 1000)
    (h : ∀ h' c, Fr h₀ L h' m → News h₀ L h' ((c, lst (vs1 ++ vs2)) :: news) → Nums (vs1 ++ vs2) (back l) → 0 < (back l).length → (back l).length ≤ 1000 → Off news c → Q (.ref c) { s with heap := h' }) :
    wpAny (model prog w) A (binaryOp .Add (.ref a) (.ref b)) Q E s := by
  have hn := n1.app n2
  rw [back_eq hne] at hn
  have hb := Nat.le_trans (len_back_le hne) hsz
  have hl := hn.len
  rw [List.length_append] at hl
  exact add_lists F N (News.isList N h1) (News.isList N h2) (fun h' F' N' => h h' _ F' N' hn (List.length_pos_iff.mpr back_ne) hb (fun p hp => Nat.ne_of_lt (Heap.lt_size (N p hp).1))) (by rw [hl, sizeLine_eq]; omega)
theorem add_fwd {vs1 vs2 : List Value} (F : Fr h₀ L s.heap m) (N : News h₀ L s.heap news) (h1 : (a, lst vs1) ∈ news) (h2 : (b, lst vs2) ∈ news) (n1 : Nums vs1 (l.drop 1)) (n2 : Nums vs2 (l.take 1)) (hne : l ≠ []) (hsz : l.length ≤ 1000)
    (h : ∀ h' c, Fr h₀ L h' m → News h₀ L h' ((c, lst (vs1 ++ vs2)) :: news) → Nums (vs1 ++ vs2) (fwd l) → 0 < (fwd l).length → (fwd l).length ≤ 1000 → Off news c → Q (.ref c) { s with heap := h' }) :
    wpAny (model prog w) A (binaryOp .Add (.ref a) (.ref b)) Q E s := by
  have hn := n1.app n2
  rw [fwd_eq hne] at hn
  have hb : (fwd l).length ≤ 1000 := by rw [len_fwd hne]; exact hsz
  have hl := hn.len
  rw [List.length_append] at hl
  exact add_lists F N (News.isList N h1) (News.isList N h2) (fun h' F' N' => h h' _ F' N' hn (List.length_pos_iff.mpr fwd_ne) hb (fun p hp => Nat.ne_of_lt (Heap.lt_size (N p hp).1))) (by rw [hl, sizeLine_eq]; omega)
theorem len_num (hl : s.heap.IsList a vs.toArray) (hv : Nums vs l) (hsz : l.length ≤ 1000) (h : Q (.int (l.length : Int) (s.toks + 1)) { s with toks := s.toks + 1 + 1 }) : wpAny (model prog w) A (call (.builtin "len") [.ref a]) Q E s := by
  have e : vs.toArray.size = l.length := by rw [List.size_toArray, hv.len]
  refine len_list hl (by omega) ?_
  rw [e]; exact h
end
/-- the points of a ring, as tuples -/
structure Pts (h : Heap) (rl : Addr) (n : Nat) (t : Nat → Addr) (x y : Nat → Int) (tx ty : Nat → Tok) : Prop where
  list : h.IsList rl ((List.range n).map fun k => .ref (t k)).toArray
  tup : ∀ k, k < n → IsTup h (t k) [.int (x k) (tx k), .int (y k) (ty k)].toArray
  yy : ∀ k, k < n → 0 ≤ y k ∧ y k ≤ 2
end Mine
end
section
set_option maxHeartbeats 8000000
namespace Mine
theorem offT6 : True := by
  w_on
  w_top off
  exact trivial
end Mine
local macro_rules | `(tactic| walk_at "subscriptTail") => `(tactic| (k_here; (with_reducible show wpAny _ _ (subscriptTail _ _ (Value.ref _) (Value.int _ _)) _ _ _); k_dflt (refine' item_tupleT ?t ?a ?b ?c ?d ?_; (case t => exact IsTup.keeps (by assumption) (Fr.keep (by k_asm))); (case a => decide); (case b => decide); (case c => rfl); (case d => rfl); k_whole)))

namespace Mine
theorem fill6 : (Mine.hd.heap_39 = Mine.hd.heap_39 ∧ PySem.Challenge.rw_et5010_01 = PySem.Challenge.rw_et5010_01) := by
  k_fill
  exact ⟨rfl, rfl⟩
section
variable {prog : Program} {w : World} {A A₀ : Around} {E : Value → Shared → Prop} {s : Shared} {base h₀ : Heap} {outer : List Env} {env : Env} {L : Addr} {m : Str → Option Value} {p : Program} {loose : List Str} {mean : ExcName → Option Value} {mg mb : Str → Option Value}
  {Q : Value → Shared → Prop}
def crossV (x y : Nat → Int) (a b c : Nat) : Int := (x b - x a) * (y c - y a) - (y b - y a) * (x c - x a)
theorem cross_c {rl : Addr} {n : Nat} {t : Nat → Addr} {x y : Nat → Int} {tx ty : Nat → Tok} {i j k : Nat} (B : Below A₀ base outer h₀) (F : Fr h₀ L s.heap m) (X : (Mine.hd.heap_39 w.params).In h₀) (T : Top p loose mean mg mb h₀)
    (hA : A.frames = some (env :: outer)) (hf : env.frame = some L) (hke : env.scope.kind = .function) (hd : A.depth < recursionLimit) (hR : Pts s.heap rl n t x y tx ty) (hi : i < n) (hj : j < n) (hk : k < n)
    (hQ : ∀ h' tk tk', Fr h₀ L h' m → Ext s.heap h' → Q (.int (crossV x y i j k) tk') { s with heap := h', toks := tk }) :
    wpAny (model prog w) A (call (.ref 156) [.ref (t i), .ref (t j), .ref (t k)]) Q E s := by
  have N : News h₀ L s.heap [] := News.nil
  refine wpAny_call ?_
  refine code_defG B F X N T hA hf hke (by k_dflt k_is) (by k_dflt k_is) hd (BindsTo.of_eq rfl) (locs rfl) ?_ rfl rfl rfl (by decide)
  intro g L' h₁ FG F' N' B' X' T' G'
  try dsimp only
  try k_fold
  have g0 : ∀ b o, s.heap.get? b = some o → g.get? b = some o := fun b o e => G' b o e (fun h => nomatch h)
  have yi := hR.yy i hi
  have yj := hR.yy j hj
  have yk := hR.yy k hk
  have ti := (hR.tup i hi).keeps g0
  have tj := (hR.tup j hj).keeps g0
  have tk := (hR.tup k hk).keeps g0
  k_steps
  exact hQ _ _ _ (by assumption) (elt_after (InElt.start _) G' N (by assumption) (by assumption) fun _ h => h)
end
end Mine
end
section
set_option maxHeartbeats 800000
namespace Mine
theorem offT7 : True := by
  w_on
  w_top off
  exact trivial
end Mine
namespace Mine
theorem Pts.fr {base h : Heap} {L : Addr} {m : Str → Option Value} {rl : Addr} {n : Nat} {t : Nat → Addr} {x y : Nat → Int} {tx ty : Nat → Tok} (H : Pts base rl n t x y tx ty) (F : Fr base L h m) : Pts h rl n t x y tx ty :=
  ⟨Heap.IsList.fr H.list F, fun k hk => (H.tup k hk).keeps F.keep, H.yy⟩
theorem Pts.keeps {h h' : Heap} {rl : Addr} {n : Nat} {t : Nat → Addr} {x y : Nat → Int} {tx ty : Nat → Tok} (H : Pts h rl n t x y tx ty) (k : ∀ b o, h.get? b = some o → h'.get? b = some o) : Pts h' rl n t x y tx ty :=
  ⟨H.list.at fun o e => k _ o e, fun j hj => (H.tup j hj).keeps k, H.yy⟩
theorem one_mod (n : Nat) : Int.fmod 1 (n : Int) = ((1 % n : Nat) : Int) := by
  rw [Int.fmod_eq_emod_of_nonneg _ (by omega)]; rfl
end Mine
local macro_rules | `(tactic| walk_at "exec While") => `(tactic| refine Mine.held ?_)
local macro_rules | `(tactic| ktr_room) => `(tactic| first | with_reducible assumption | exact Nat.mod_lt _ (by with_reducible assumption))
local macro_rules | `(tactic| walk_at "subscriptTail") => `(tactic| (k_here; (with_reducible show wpAny _ _ (subscriptTail _ (Expr.Constant _ _ _) (Value.ref _) (Value.int _ _)) _ _ _); k_dflt (refine' Mine.item_num (j := 0) ?hl ?hv ?hk ?hj ?hs ?_; (case hl => exact News.isList (by k_asm) (by k_mem)); (case hv => assumption); (case hk => exact rfl); (case hj => ktr_room); (case hs => assumption); k_whole; intro t')))
local macro_rules | `(tactic| walk_at "subscriptTail") => `(tactic| (k_here; (with_reducible show wpAny _ _ (subscriptTail _ (Expr.BinOp _ _ _ _) (Value.ref _) (Value.int _ _)) _ _ _); k_dflt (refine' Mine.item_num ?hl ?hv ?hk ?hj ?hs ?_; (case hl => exact News.isList (by k_asm) (by k_mem)); (case hv => assumption); (case hk => exact Mine.one_mod _); (case hj => ktr_room); (case hs => assumption); k_whole; intro t')))
local macro_rules | `(tactic| walk_at "subscriptTail") => `(tactic| (k_here; (with_reducible show wpAny _ _ (subscriptTail _ (Expr.UnaryOp _ _ _) (Value.ref _) (Value.int (-1) _)) _ _ _); k_dflt (refine' Mine.item_last ?hl ?hv ?hj ?hs ?_; (case hl => exact News.isList (by k_asm) (by k_mem)); (case hv => assumption); (case hj => assumption); (case hs => assumption); k_whole; intro t')))
local macro_rules | `(tactic| walk_at "subscriptTail") => `(tactic| (k_here; (with_reducible show wpAny _ _ (subscriptTail _ (Expr.Subscript _ _ _) (Value.ref _) (Value.int _ _)) _ _ _); k_dflt (refine' Mine.item_fun ?hl ?hk ?hs ?_; (case hl => refine' Mine.Heap.IsList.fr ?ha ?hb; (case hb => k_asm); (case ha => assumption)); (case hk => assumption); (case hs => assumption); k_whole)))
local macro_rules | `(tactic| walk_at "subscriptTail Name Slice ref ref") => `(tactic| (k_here; (with_reducible show wpAny _ _ (subscriptTail _ (Expr.Slice _ _ _ _) (Value.ref _) (Value.ref _)) _ _ _); k_dflt (refine' Mine.slice_num ?F ?N ?hm ?hv ?hs ?pl ?pu ?e ?_; (case F => k_asm); (case N => k_asm); (case hm => k_mem); (case hv => assumption); (case hs => assumption); (case pl => first | exact .none | exact .int _ _); (case pu => first | exact .none | exact .int _ _); (case e => first | exact Mine.sp_from (by assumption) | exact Mine.sp_upto (by assumption) | exact Mine.sp_last (by assumption) | exact Mine.sp_mid (by assumption)); k_whole; intro h' b' F' N' v'; (try k_sweep))))
local macro_rules | `(tactic| walk_at "binaryOp Add ref ref") => `(tactic| (k_here; k_dflt (first
  | (refine' Mine.add_back ?F ?N ?h1 ?h2 ?n1 ?n2 ?hne ?hs ?_; (case F => k_asm); (case N => k_asm); (case h1 => k_mem); (case h2 => k_mem); (case hne => assumption); (case hs => assumption); (case n1 => assumption); (case n2 => assumption); k_whole; intro h' c' F' N' v' p' z' d'; (try k_sweep))
  | (refine' Mine.add_fwd ?F ?N ?h1 ?h2 ?n1 ?n2 ?hne ?hs ?_; (case F => k_asm); (case N => k_asm); (case h1 => k_mem); (case h2 => k_mem); (case hne => assumption); (case hs => assumption); (case n1 => assumption); (case n2 => assumption); k_whole; intro h' c' F' N' v' p' z' d'; (try k_sweep)))))
local macro_rules | `(tactic| walk_at "call builtin:len") => `(tactic| (k_here; (with_reducible show wpAny _ _ (call (Value.builtin "len") [Value.ref _]) _ _ _); k_dflt (refine' Mine.len_num ?hl ?hv ?hs ?_; (case hl => exact News.isList (by k_asm) (by k_mem)); (case hv => assumption); (case hs => assumption); k_whole)))
local macro_rules | `(tactic| walk_at "call ref") => `(tactic| (k_here; (with_reducible show wpAny _ _ (call (Value.ref 156) _) _ _ _); k_dflt (refine' Mine.cross_c ?B ?F ?X ?T ?hA ?hf ?hke ?hd ?hR ?hi ?hj ?hk ?_; (case B => k_asm); (case F => k_asm); (case X => k_asm); (case T => k_asm); (case hA => exact Around.frames_deeper (by assumption)); (case hf => exact rfl); (case hke => exact rfl); (case hd => assumption); (case hR => exact Mine.Pts.fr (by assumption) (by k_asm)); (case hi => assumption); (case hj => assumption); (case hk => assumption); k_whole; intro h' tk' tk2' F' e'; (have N' := News.grown (by assumption) e'); (try k_sweep))))

namespace Mine
theorem fill7 : (Mine.hd.heap_39 = Mine.hd.heap_39 ∧ PySem.Challenge.rw_et5010_01 = PySem.Challenge.rw_et5010_01) := by
  k_fill
  exact ⟨rfl, rfl⟩
def RL (x y : Nat → Int) (mk : Nat → Bool) (l : List Nat) : Bool := !mk (l.headD 0) && decide (crossV x y (l.getLastD 0) (l.headD 0) (l.getD (1 % l.length) 0) = 0)
structure LG (n : Nat) (x y : Nat → Int) (mk : Nat → Bool) (r : List Nat) (fu : Nat) (l : List Nat) (stop : Nat) (vs : List Value) : Prop where
  ne : l ≠ []
  lt : ∀ k ∈ l, k < n
  len : l.length ≤ 1000
  nums : Nums vs l
  run : filtN (RL x y mk) fu l stop = some r
theorem getD_head (l : List Nat) : l.getD 0 0 = l.headD 0 := by cases l <;> rfl
theorem LG.pass {n : Nat} {x y : Nat → Int} {mk : Nat → Bool} {r : List Nat} {fu : Nat} {l : List Nat} {stop : Nat} {vs ws : List Value} (G : LG n x y mk r fu l stop vs) (hR : RL x y mk l = false) (hv : Nums ws (fwd l)) (hz : (fwd l).length ≤ 1000) :
    ∃ fu', fu' < fu ∧ ((fwd l).getD 0 0 = stop → r = fwd l) ∧ ((fwd l).getD 0 0 ≠ stop → LG n x y mk r fu' (fwd l) stop ws) := by
  obtain ⟨ne, lt, len, nums, run⟩ := G
  match fu, run with
  | k + 1, run =>
    unfold filtN at run
    rw [if_neg (by rw [hR]; decide), ← getD_head] at run
    refine ⟨k, Nat.lt_succ_self _, fun e => ?_, fun e => ?_⟩
    · rw [if_pos e] at run; cases run; rfl
    · rw [if_neg e] at run; exact ⟨fwd_ne, fun x hx => lt x ((mem_fwd ne).mp hx), hz, hv, run⟩
theorem LG.gone {n : Nat} {x y : Nat → Int} {mk : Nat → Bool} {r : List Nat} {fu : Nat} {l : List Nat} {stop : Nat} {vs ws : List Value} (G : LG n x y mk r fu l stop vs) (hR : RL x y mk l = true) (hv : Nums ws (back l)) (hz : (back l).length ≤ 1000) :
    ∃ fu', fu' < fu ∧ ((back l).length = 1 → r = back l) ∧ ((back l).length ≠ 1 → LG n x y mk r fu' (back l) ((back l).getD 0 0) ws) := by
  obtain ⟨ne, lt, len, nums, run⟩ := G
  match fu, run with
  | k + 1, run =>
    unfold filtN at run
    rw [if_pos hR, ← getD_head] at run
    refine ⟨k, Nat.lt_succ_self _, fun e => ?_, fun e => ?_⟩
    · rw [if_pos e] at run; cases run; rfl
    · rw [if_neg e] at run; exact ⟨back_ne, fun x hx => lt x (mem_back ne hx), hz, hv, run⟩
theorem wstep_ret {h₀ : Heap} {L : Addr} {s s₃ : Shared} {J : Nat → (Str → Option Value) → List (Addr × Obj) → Prop} {Q : Flow → Shared → Prop} {n : Nat} {v : Value} (h : Q (.ret v) s₃) : WhileStep2 h₀ L s J Q n (.ret v) s₃ := h
theorem news_one {h₀ h : Heap} {L : Addr} {q : Addr × Obj} {r : List (Addr × Obj)} (N : News h₀ L h (q :: r)) : News h₀ L h [q] := fun p hp => N p (by rcases List.mem_cons.mp hp with rfl | hp; exact .head _; cases hp)
theorem news_two {h₀ h : Heap} {L : Addr} {q q' : Addr × Obj} {r : List (Addr × Obj)} (N : News h₀ L h (q :: r)) (hq : q' ∈ r) : News h₀ L h [q, q'] := fun p hp => N p (by
  rcases List.mem_cons.mp hp with rfl | hp
  · exact .head _
  · rcases List.mem_cons.mp hp with rfl | hp
    · exact .tail _ hq
    · cases hp)
theorem fresh_of {h g : Heap} {L' : Addr} {h' : Heap} {c rg : Addr} {o o' : Obj} {r : List (Addr × Obj)} {as : List Addr} (G : GSub h g as) (N : News g L' h' ((c, o) :: r)) (ha : c ∉ as) : h.get? c = none := by
  cases e : h.get? c with
  | none => rfl
  | some q => have := G c q e ha; rw [(N _ (.head _)).2.2] at this; cases this
def LJ (n : Nat) (x y : Nat → Int) (mk : Nat → Bool) (r : List Nat) (rl ml rg : Addr) (vs₀ : List Value) (fu : Nat) (m : Str → Option Value) (nws : List (Addr × Obj)) : Prop :=
  ∃ l stop ts a vs, nws = [(a, lst vs), (rg, lst vs₀)] ∧ m (Str.ofString "rows") = some (.ref rl) ∧ m (Str.ofString "marks") = some (.ref ml) ∧ m (Str.ofString "ring") = some (.ref a) ∧ m (Str.ofString "stop") = some (.int ((stop : Nat) : Int) ts) ∧ LG n x y mk r fu l stop vs
section
variable {prog : Program} {w : World} {A A₀ : Around} {E : Value → Shared → Prop} {s : Shared} {base h₀ : Heap} {outer : List Env} {env : Env} {L : Addr} {m : Str → Option Value} {p : Program} {loose : List Str} {mean : ExcName → Option Value} {mg mb : Str → Option Value}
  {Q : Value → Shared → Prop}
theorem lawfilt_c {rl ml rg : Addr} {n : Nat} {t : Nat → Addr} {x y : Nat → Int} {tx ty : Nat → Tok} {mk : Nat → Bool} {l r : List Nat} {vs : List Value} {stop : Nat} {ts : Tok} {fu : Nat}
    (B : Below A₀ base outer h₀) (F : Fr h₀ L s.heap m) (X : (Mine.hd.heap_39 w.params).In h₀) (N : News h₀ L s.heap [(rg, lst vs)]) (T : Top p loose mean mg mb h₀)
    (hA : A.frames = some (env :: outer)) (hf : env.frame = some L) (hke : env.scope.kind = .function) (hd : A.depth < recursionLimit) (hd1 : A.depth + 1 < recursionLimit)
    (hR : Pts s.heap rl n t x y tx ty) (hM : s.heap.IsList ml ((List.range n).map fun k => .bool (mk k)).toArray) (hoff : ∀ k, k < n → t k ≠ rg) (hrl : rl ≠ rg) (hml : ml ≠ rg) (hn : n ≤ 1000) (G : LG n x y mk r fu l stop vs)
    (hQ : ∀ h' tk a' vs', Fr h₀ L h' m → News h₀ L h' [(a', lst vs')] → s.heap.get? a' = none → Ext s.heap h' → Nums vs' r → Q (.ref a') { s with heap := h', toks := tk }) :
    wpAny (model prog w) A (call (.ref 163) [.ref rl, .ref ml, .ref rg, .int (stop : Int) ts]) Q E s := by
  refine wpAny_call ?_
  refine code_defG B F X N T hA hf hke (by k_dflt k_is) (by k_dflt k_is) hd (BindsTo.of_eq rfl) (locs rfl) ?_ rfl rfl rfl (by decide)
  intro g L' h₁ FG F' N' B' X' T' G'
  try dsimp only
  try k_fold
  have g0 : ∀ b o, b ≠ rg → s.heap.get? b = some o → g.get? b = some o := fun b o hb e => G' b o e (fun h => by rcases List.mem_cons.mp h with h | h; exact hb h; cases h)
  have gM : g.IsList ml ((List.range n).map fun k => .bool (mk k)).toArray := hM.at fun o e => g0 _ o hml e
  have gR : Pts g rl n t x y tx ty := ⟨hR.list.at fun o e => g0 _ o hrl e, fun k hk => let ⟨o, e, q⟩ := hR.tup k hk; ⟨o, g0 _ o (hoff k hk) e, q⟩, hR.yy⟩
  have gl := gR.list
  k_steps
  rename Fr g L' _ _ => Fw
  rename News g L' _ _ => Nw
  unfold Held
  refine While_inv2 (LJ n x y mk r rl ml rg vs) (news := [(rg, lst vs), (rg, lst vs)]) Fw (fun p hp => Nw p (by simpa using hp)) (n₀ := fu) ⟨l, stop, ts, rg, vs, rfl, rfl, rfl, rfl, rfl, G⟩ ?_
  clear Fw Nw
  rintro n₁ m₁ nws h₂ tk₂ F₂ N₂ ⟨l₁, stop₁, ts₁, a₁, vs₁, rfl, hm1, hm2, hm3, hm4, G₁⟩
  have e : (fun z => if z = Str.ofString "rows" then some (.ref rl) else if z = Str.ofString "marks" then some (.ref ml) else if z = Str.ofString "ring" then some (.ref a₁) else if z = Str.ofString "stop" then some (.int (stop₁ : Int) ts₁) else m₁ z) = m₁ := by
    funext z
    by_cases h1 : z = Str.ofString "rows"
    · rw [if_pos h1, h1, hm1]
    · rw [if_neg h1]
      by_cases h2 : z = Str.ofString "marks"
      · rw [if_pos h2, h2, hm2]
      · rw [if_neg h2]
        by_cases h3 : z = Str.ofString "ring"
        · rw [if_pos h3, h3, hm3]
        · rw [if_neg h3]
          by_cases h4 : z = Str.ofString "stop"
          · rw [if_pos h4, h4, hm4]
          · rw [if_neg h4]
  rw [← e] at F₂
  clear e
  have G₂ := G₁
  obtain ⟨ne₁, lt₁, len₁, nums₁, run₁⟩ := G₁
  have pos₁ : 0 < l₁.length := List.length_pos_iff.mpr ne₁
  have hh₁ : l₁.getD 0 0 < n := by
    match l₁, ne₁, lt₁ with
    | a :: t, _, h => exact h a (.head _)
  have hl₁ : l₁.getLastD 0 < n := by
    rw [List.getLastD_eq_getLast?, List.getLast?_eq_some_getLast ne₁]
    exact lt₁ _ (List.getLast_mem ne₁)
  have hs₁ : l₁.getD (1 % l₁.length) 0 < n := by
    rw [List.getD_eq_getElem?_getD, List.getElem?_eq_getElem (Nat.mod_lt _ pos₁)]
    exact lt₁ _ (List.getElem_mem _)
  k_steps
  · rename mk (l₁.getD 0 0) = true => h1
    have hR : RL x y mk l₁ = false := by unfold RL; rw [← getD_head, h1]; rfl
    rename Nums _ (fwd l₁) => hv
    rename (fwd l₁).length ≤ 1000 => hz
    rename (((fwd l₁).getD 0 0 : Nat) : Int) = (stop₁ : Int) => h9
    rename Off _ _ => hd9
    obtain ⟨fu', hfu, ka, kb⟩ := G₂.pass hR hv hz
    have er := ka (by omega)
    subst er
    rename News g L' _ (_ :: _ :: _ :: _) => N9
    have hfr := fresh_of (rg := rg) (o' := lst vs) G' N9 (fun q => by rcases List.mem_cons.mp q with q | q; exact hd9 (rg, lst vs) (.tail _ (.tail _ (.tail _ (.head _)))) q.symm; cases q)
    dsimp only
    refine wstep_ret ?_
    dsimp only
    k_steps
    exact hQ _ _ _ _ (by assumption) (news_one (by assumption)) hfr (elt_after (InElt.start _) G' N (by assumption) N9 (fun p hp => by rcases List.mem_cons.mp hp with rfl | hp; exact .tail _ (.tail _ (.tail _ (.tail _ (.head _)))); cases hp)) hv
  · rename mk (l₁.getD 0 0) = true => h1
    have hR : RL x y mk l₁ = false := by unfold RL; rw [← getD_head, h1]; rfl
    rename Nums _ (fwd l₁) => hv
    rename (fwd l₁).length ≤ 1000 => hz
    rename (((fwd l₁).getD 0 0 : Nat) : Int) ≠ (stop₁ : Int) => h9
    obtain ⟨fu', hfu, ka, kb⟩ := G₂.pass hR hv hz
    have G₃ := kb (by omega)
    rename News g L' _ (_ :: _ :: _ :: _) => N9
    exact wstep_next (by assumption) (news_two (q' := (rg, lst vs)) N9 (.tail _ (.tail _ (.tail _ (.head _))))) hfu ⟨_, _, _, _, _, rfl, rfl, rfl, rfl, rfl, G₃⟩
  · rename mk (l₁.getD 0 0) = false => h1
    rename crossV x y _ _ _ = 0 => h3
    have hR : RL x y mk l₁ = true := by unfold RL; rw [← getD_head, h1, h3]; rfl
    rename Nums _ (back l₁) => hv
    rename (back l₁).length ≤ 1000 => hz
    rename (((back l₁).length : Nat) : Int) = 1 => h9
    rename Off _ _ => hd9
    obtain ⟨fu', hfu, ka, kb⟩ := G₂.gone hR hv hz
    have er := ka (by omega)
    subst er
    rename News g L' _ (_ :: _ :: _ :: _) => N9
    have hfr := fresh_of (rg := rg) (o' := lst vs) G' N9 (fun q => by rcases List.mem_cons.mp q with q | q; exact hd9 (rg, lst vs) (.tail _ (.tail _ (.tail _ (.head _)))) q.symm; cases q)
    dsimp only
    refine wstep_ret ?_
    dsimp only
    k_steps
    exact hQ _ _ _ _ (by assumption) (news_one (by assumption)) hfr (elt_after (InElt.start _) G' N (by assumption) N9 (fun p hp => by rcases List.mem_cons.mp hp with rfl | hp; exact .tail _ (.tail _ (.tail _ (.tail _ (.head _)))); cases hp)) hv
  · rename mk (l₁.getD 0 0) = false => h1
    rename crossV x y _ _ _ = 0 => h3
    have hR : RL x y mk l₁ = true := by unfold RL; rw [← getD_head, h1, h3]; rfl
    rename Nums _ (back l₁) => hv
    rename (back l₁).length ≤ 1000 => hz
    rename (((back l₁).length : Nat) : Int) ≠ 1 => h9
    obtain ⟨fu', hfu, ka, kb⟩ := G₂.gone hR hv hz
    have G₃ := kb (by omega)
    rename News g L' _ (_ :: _ :: _ :: _) => N9
    exact wstep_next (by assumption) (news_two (q' := (rg, lst vs)) N9 (.tail _ (.tail _ (.tail _ (.head _))))) hfu ⟨_, _, _, _, _, rfl, rfl, rfl, rfl, rfl, G₃⟩
  · rename mk (l₁.getD 0 0) = false => h1
    rename crossV x y _ _ _ ≠ 0 => h3
    have hR : RL x y mk l₁ = false := by unfold RL; rw [← getD_head, h1, decide_eq_false h3]; rfl
    rename Nums _ (fwd l₁) => hv
    rename (fwd l₁).length ≤ 1000 => hz
    rename (((fwd l₁).getD 0 0 : Nat) : Int) = (stop₁ : Int) => h9
    rename Off _ _ => hd9
    obtain ⟨fu', hfu, ka, kb⟩ := G₂.pass hR hv hz
    have er := ka (by omega)
    subst er
    rename News g L' _ (_ :: _ :: _ :: _) => N9
    have hfr := fresh_of (rg := rg) (o' := lst vs) G' N9 (fun q => by rcases List.mem_cons.mp q with q | q; exact hd9 (rg, lst vs) (.tail _ (.tail _ (.tail _ (.head _)))) q.symm; cases q)
    dsimp only
    refine wstep_ret ?_
    dsimp only
    k_steps
    exact hQ _ _ _ _ (by assumption) (news_one (by assumption)) hfr (elt_after (InElt.start _) G' N (by assumption) N9 (fun p hp => by rcases List.mem_cons.mp hp with rfl | hp; exact .tail _ (.tail _ (.tail _ (.tail _ (.head _)))); cases hp)) hv
  · rename mk (l₁.getD 0 0) = false => h1
    rename crossV x y _ _ _ ≠ 0 => h3
    have hR : RL x y mk l₁ = false := by unfold RL; rw [← getD_head, h1, decide_eq_false h3]; rfl
    rename Nums _ (fwd l₁) => hv
    rename (fwd l₁).length ≤ 1000 => hz
    rename (((fwd l₁).getD 0 0 : Nat) : Int) ≠ (stop₁ : Int) => h9
    obtain ⟨fu', hfu, ka, kb⟩ := G₂.pass hR hv hz
    have G₃ := kb (by omega)
    rename News g L' _ (_ :: _ :: _ :: _) => N9
    exact wstep_next (by assumption) (news_two (q' := (rg, lst vs)) N9 (.tail _ (.tail _ (.tail _ (.head _))))) hfu ⟨_, _, _, _, _, rfl, rfl, rfl, rfl, rfl, G₃⟩
end
end Mine
end
section
set_option maxHeartbeats 1000000
namespace Mine
theorem offT8 : True := by
  w_on
  w_top off
  exact trivial
end Mine
namespace Mine
section
variable {prog : Program} {w : World} {A : Around} {E : Value → Shared → Prop} {s : Shared} {h₀ : Heap} {L : Addr} {m : Str → Option Value} {env : Env}
theorem comp_rng {elt iter : Expr} {x : Str} {px : Pos} {ifs : List Expr} {scope : Scope} {cl : List (Str × Addr)} {pos : Pos} {Q : Value → Shared → Prop} (pz : Int → Bool) (d : Int → PyData) (F : Fr h₀ L s.heap m)
    (hh : A.handled = none) (hclos : closureFor scope env = pure cl) (hcell : ∀ y ∈ scope.names, y.2 ≠ .cell) (hkind : scope.kind = .function)
    (hnames : ∀ y ∈ scope.names, y.2 = .local → scope.names.lookup y.1 = some .local) (hx : scope.names.lookup x = some .local)
    (h : wpAny (model prog w) A (eval iter env) (fun xv s₁ => Held (∃ news : List (Addr × Obj), ∃ r a₀ b₀ c₀ t₀ u₀ v₀, ∃ n : Nat, xv = .ref r ∧ IsRange s₁.heap r a₀ b₀ c₀ t₀ u₀ v₀ ∧ Builtin.Range.small a₀ b₀ c₀ = true ∧ Builtin.Range.rangeSize a₀ b₀ c₀ = (n : Int) ∧ n ≤ sizeLine ∧ Fr h₀ L s₁.heap m ∧ News h₀ L s₁.heap news ∧
      (∀ C a v s₂ m₂ E', s₁.heap.objs.size ≤ C → a ∈ rangeInts a₀ c₀ n → ItemKind.int.is a v → s₂.heap.Ns (compEnvC scope cl C env).locals m₂ → m₂ x = some v → (∀ b o, s₁.heap.get? b = some o → s₂.heap.get? b = some o) →
        wpAny (model prog w) A (forIn ifs true fun c r => if r = true then do let ok ← isTrue c (compEnvC scope cl C env) (eval c (compEnvC scope cl C env)); pure (ForInStep.yield ok) else pure (ForInStep.yield r))
          (fun ok s₃ => ok = pz a ∧ Keeps s₂ s₃) E' s₂) ∧
      (∀ C a v s₂ m₂ E', s₁.heap.objs.size ≤ C → a ∈ rangeInts a₀ c₀ n → ItemKind.int.is a v → pz a = true → s₂.heap.Ns (compEnvC scope cl C env).locals m₂ → m₂ x = some v → (∀ b o, s₁.heap.get? b = some o → s₂.heap.get? b = some o) →
        wpAny (model prog w) A (eval elt (compEnvC scope cl C env)) (fun y s₃ => Carried y (d a) ∧ Keeps s₂ s₃) E' s₂) ∧
      (∀ D (ys : List Value) h' tk, Fr h₀ L h' m → News h₀ L h' news → h₀.get? D = none → h'.IsList D ys.toArray → NewPlain h' news D ys.toArray → CarriedAll ys (((rangeInts a₀ c₀ n).filter pz).map d) → Q (.ref D) { s₁ with heap := h', toks := tk }))) E s)
    (hs : ∀ x, foldedSetIterable iter env x = pure x) :
    wpAny (model prog w) A (eval (.ListComp elt [⟨.Name x px, iter, ifs, 0⟩] scope pos) env) Q E s :=
  ListComp_DCr (h₀ := h₀) (L := L) (m := m) (pz := pz) (d := d) hh hclos hcell hkind hnames hx h hs
end
section
variable {M : Model} {prog : Program} {w : World} {A : Around} {E : Value → Shared → Prop} {s : Shared} {h₀ : Heap} {L : Addr} {m mg mb : Str → Option Value} {env : Env} {x : Str} {pos : Pos} {v : Value} {Q : Value → Shared → Prop} {news : List (Addr × Obj)} {K : Frag} {p : Program} {loose : List Str}
theorem cname_l {m₂ : Str → Option Value} (hn : s.heap.Ns env.locals m₂) (hm : m₂ x = some v) (h : Q v s) (hk : env.scope.kind = .function) (hl : env.kindOf x = some .local) (hd : (x == ("__debug__" : Str)) = false) :
    wpAny M A (eval (.Name x pos) env) Q E s := wpAny_Name (wpAny_loadName_local hk hl hn hm h) hd
theorem cname_c {c : Addr} {o : Obj} (N : News h₀ L s.heap news) (hc : env.cells.lookup x = some c) (hm : (c, o) ∈ news) (ho : o.data = .cell (some v)) (h : Q v s) (hk : env.scope.kind = .function) (hl : env.kindOf x = some .cell) (hd : (x == ("__debug__" : Str)) = false) :
    wpAny M A (eval (.Name x pos) env) Q E s := wpAny_Name (wpAny_loadName_cell hk hl hc ⟨o, N.get hm, ho⟩ h) hd
theorem cname_b (F : Fr h₀ L s.heap m) (X : K.In h₀) (T : TopRead p loose mg mb h₀) (e : nsIn K mainGlobals x = some none) (hv : bootBuiltins x = some v) (hn : x ≠ "__name__") (h : Q v s)
    (hg : env.globals = mainGlobals) (hb : env.builtins = builtinsNs) (hk : env.scope.kind = .function) (hx : env.kindOf x = some .globalImplicit) (hd : (x == ("__debug__" : Str)) = false) :
    wpAny M A (eval (.Name x pos) env) Q E s :=
  Name_function_global hk hx (loadGlobal_builtin (env := env) (by rw [hg]; exact T.g.keeps F.keep) (mg_none_of X T.g e) (by rw [hb]; exact T.b.keeps F.keep) ((T.builtins x hn).trans hv) h) hd
end
theorem rng_small {n : Nat} (h : n ≤ 1000) : Builtin.Range.small 0 (n : Int) 1 = true := small_one (by decide) (by decide) (by omega) (by omega)
theorem rng_size {n : Nat} : Builtin.Range.rangeSize 0 (n : Int) 1 = (n : Int) := by rw [rangeSize_pos (by decide) (by omega)]; omega
theorem rng_mem {n : Nat} {a : Int} (h : a ∈ rangeInts 0 1 n) : ∃ j : Nat, j < n ∧ a = (j : Int) := by
  obtain ⟨i, hi, rfl⟩ := List.mem_map.mp h
  exact ⟨i, List.mem_range.mp hi, by omega⟩
theorem rng_ints (n : Nat) : rangeInts 0 1 n = (List.range n).map fun j => ((j : Nat) : Int) := by
  unfold rangeInts
  exact List.map_congr_left fun j _ => by omega
def predD (r : List Nat) (j : Nat) : Nat := if j = 0 then r.getLastD 0 else r.getD (j - 1) 0
theorem Ch.at {nx pv : Nat → Nat} : ∀ {t : List Nat} {a z : Nat}, Ch nx pv a t z → ∀ j, j ≤ t.length → nx ((a :: t).getD j 0) = (t ++ [z]).getD j 0 ∧ pv ((t ++ [z]).getD j 0) = (a :: t).getD j 0
  | [], a, z, h, 0, _ => h
  | b :: t, a, z, h, 0, _ => h.1
  | b :: t, a, z, h, j + 1, hj => Ch.at h.2 j (Nat.le_of_succ_le_succ hj)
theorem linked_next {nx pv : Nat → Nat} {r : List Nat} (h : Linked nx pv r) {j : Nat} (hj : j < r.length) : nx (r.getD j 0) = r.getD ((j + 1) % r.length) 0 := by
  match r, h with
  | a :: t, h =>
    have h1 := (Ch.at h j (Nat.le_of_lt_succ hj)).1
    rw [h1]
    by_cases e : j = t.length
    · subst e
      have : (t.length + 1) % (a :: t).length = 0 := by simp
      rw [this, List.getD_eq_getElem?_getD, List.getElem?_append_right (Nat.le_refl _)]
      simp
    · have hlt : j < t.length := by simp at hj; omega
      have : (j + 1) % (a :: t).length = j + 1 := Nat.mod_eq_of_lt (by simp; omega)
      rw [this, List.getD_eq_getElem?_getD, List.getElem?_append_left hlt]
      rfl
theorem linked_prev {nx pv : Nat → Nat} {r : List Nat} (h : Linked nx pv r) {j : Nat} (hj : j < r.length) : pv (r.getD j 0) = predD r j := by
  unfold predD
  match r, h, j, hj with
  | a :: t, h, 0, _ =>
    rw [if_pos rfl]
    exact linked_pv (nx := nx) (pv := pv) (l := a :: t) h
  | a :: t, h, j + 1, hj =>
    rw [if_neg (by omega)]
    have hlt : j < t.length := by simp at hj; omega
    have h2 := (Ch.at h j (by omega)).2
    rw [List.getD_eq_getElem?_getD, List.getElem?_append_left hlt] at h2
    exact h2
theorem getD_lt {r : List Nat} {n j : Nat} (hr : ∀ k ∈ r, k < n) (hj : j < r.length) : r.getD j 0 < n := by
  rw [List.getD_eq_getElem?_getD, List.getElem?_eq_getElem hj]
  exact hr _ (List.getElem_mem _)
theorem predD_lt {r : List Nat} {n j : Nat} (hr : ∀ k ∈ r, k < n) (hj : j < r.length) : predD r j < n := by
  unfold predD
  split
  · have hne : r ≠ [] := fun e => by rw [e] at hj; exact absurd hj (Nat.not_lt_zero _)
    rw [List.getLastD_eq_getLast?, List.getLast?_eq_some_getLast hne]
    exact hr _ (List.getLast_mem hne)
  · exact getD_lt hr (by omega)
theorem fmod_cast (a n : Nat) : Int.fmod ((a : Int) + 1) (n : Int) = (((a + 1) % n : Nat) : Int) := by
  rw [Int.fmod_eq_emod_of_nonneg _ (by omega)]; rfl
section
variable {prog : Program} {w : World} {A : Around} {E : Value → Shared → Prop} {s : Shared} {value slice : Expr} {a b : Addr} {vs : List Value} {r : List Nat} {u : Tok} {Q : Value → Shared → Prop}
theorem item_pred {j : Nat} (hl : s.heap.IsList a vs.toArray) (hv : Nums vs r) (hj : j < r.length) (hsz : r.length ≤ 1000) (h : ∀ t, Q (.int ((predD r j : Nat) : Int) t) s)
    (hs : ∀ k : Int, subscripted slice false (.ref a) (.int k u) = operate [.ref a, .int k u] (getItem (.ref a) (.int k u)) := by intro _; with_unfolding_all rfl) :
    wpAny (model prog w) A (subscriptTail value slice (.ref a) (.int ((j : Int) - 1) u)) Q E s := by
  by_cases e : j = 0
  · subst e
    have e1 : ((0 : Nat) : Int) - 1 = -1 := by decide
    rw [e1]
    refine item_last hl hv (fun q => by rw [q] at hj; exact absurd hj (Nat.not_lt_zero _)) hsz (fun t => ?_) (hs _)
    have := h t
    unfold predD at this
    rw [if_pos rfl] at this
    exact this
  · refine item_num (j := j - 1) hl hv (by omega) (by omega) hsz (fun t => ?_) (hs _)
    have := h t
    unfold predD at this
    rw [if_neg e] at this
    exact this
theorem eq_empty (ha : s.heap.IsList a #[]) (hb : s.heap.IsList b #[]) (hu : A.units + 64 < cLine) (h : Q (.bool true) s) : wpAny (model prog w) A (compareOp .Eq (.ref a) (.ref b)) Q E s :=
  eq_intsK (vs := []) (us := []) ha .nil hb .nil hu h
theorem ne_empty (ha : s.heap.IsList a #[]) (hb : s.heap.IsList b #[]) (hu : A.units + 64 < cLine) (h : Q (.bool false) s) : wpAny (model prog w) A (compareOp .NotEq (.ref a) (.ref b)) Q E s :=
  ne_intsK (vs := []) (us := []) ha .nil hb .nil hu h
end
theorem car_empty {ys : List Value} (h : CarriedAll ys []) : ys = [] := by cases h; rfl
theorem news_add {h₀ h : Heap} {L D : Addr} {m : Str → Option Value} {news : List (Addr × Obj)} {ys : List Value} (F : Fr h₀ L h m) (N : News h₀ L h news) (hD : h₀.get? D = none) (x : NewPlain h news D ys.toArray) :
    ∃ n, News h₀ L h ((D, { cls := .type "list", data := .seq ys.toArray n }) :: news) := by
  obtain ⟨n, e⟩ := x.1
  refine ⟨n, fun p hp => ?_⟩
  rcases List.mem_cons.mp hp with rfl | hp
  · exact ⟨e, x.ne_locals F, hD⟩
  · exact N p hp
theorem filter_none {l : List Int} {pz : Int → Bool} {d : Int → PyData} (h : ∀ a ∈ l, pz a = false) : (l.filter pz).map d = [] := by
  rw [List.filter_eq_nil_iff.mpr (fun a ha => by rw [h a ha]; decide)]; rfl
theorem sub_tail {q : Addr × Obj} {l news : List (Addr × Obj)} (h : ∀ p ∈ l, p ∈ news) : ∀ p ∈ l, p ∈ q :: news := fun p hp => .tail _ (h p hp)
end Mine
end
section
set_option maxHeartbeats 1000000
namespace Mine
theorem offT9 : True := by
  w_on
  w_top off
  exact trivial
end Mine
local macro_rules | `(tactic| ktr_unf) => `(tactic| first | with_reducible assumption | (refine List.mem_cons_of_mem _ ?_; ktr_unf))
local macro_rules | `(tactic| ktr_step) => `(tactic| first | with_reducible assumption | (refine Mine.sub_tail ?_; ktr_step))
local macro_rules | `(tactic| ktr_rel) => `(tactic| first | with_reducible assumption | exact Mine.Maps.lt (by with_reducible assumption) (by with_reducible assumption) | exact Mine.getD_lt (by with_reducible assumption) (by with_reducible assumption) | exact Mine.predD_lt (by with_reducible assumption) (by with_reducible assumption) | exact Mine.Maps.lt (by with_reducible assumption) (Mine.getD_lt (by with_reducible assumption) (by with_reducible assumption)) | exact Mine.getD_lt (by with_reducible assumption) (Nat.mod_lt _ (by with_reducible assumption)))
local macro_rules | `(tactic| walk_at "call builtin:len") => `(tactic| (k_here; (with_reducible show wpAny _ _ (call (Value.builtin "len") [Value.ref _]) _ _ _); k_dflt (refine' Mine.len_num ?hl ?hv ?hs ?_; (case hl => exact News.isList (by k_asm) (by ktr_unf)); (case hv => assumption); (case hs => assumption); k_whole)))
local macro_rules | `(tactic| walk_at "eval ListComp") => `(tactic| refine Mine.held ?_)
local macro_rules | `(tactic| walk_at "eval Name") => `(tactic| (k_here; k_inBlock; k_dflt (refine' Mine.cname_b ?F ?X ?T ?e ?v ?n ?_ ?a ?b ?c ?d ?f; (case F => k_asm); (case a => rfl); (case b => rfl); (case c => rfl); (case d => rfl); (case f => decide); (case X => k_asm); (case e => k_is); (case T => k_asm); (case v => boot_fast); (case n => decide); k_whole)))
local macro_rules | `(tactic| walk_at "eval Name") => `(tactic| (k_here; k_inBlock; k_dflt (refine' Mine.cname_c ?N ?c ?m ?o ?_ ?a ?b ?d; (case a => rfl); (case b => rfl); (case d => decide); (case N => k_asm); (case c => rfl); (case m => k_mem); (case o => assumption); k_whole)))
local macro_rules | `(tactic| walk_at "eval Name") => `(tactic| (k_here; k_inBlock; k_dflt (refine' Mine.cname_l ?n ?m ?_ ?a ?b ?d; (case a => rfl); (case b => rfl); (case d => decide); (case n => assumption); (case m => assumption); k_whole)))
local macro_rules | `(tactic| walk_at "subscriptTail") => `(tactic| (k_here; (with_reducible show wpAny _ _ (subscriptTail _ (Expr.Name _ _) (Value.ref _) (Value.int _ _)) _ _ _); k_dflt (refine' Mine.item_num ?hl ?hv ?hk ?hj ?hs ?_; (case hl => exact News.isList (by k_asm) (by ktr_unf)); (case hv => assumption); (case hk => exact rfl); (case hj => with_reducible assumption); (case hs => with_reducible assumption); k_whole; intro t')))
local macro_rules | `(tactic| walk_at "subscriptTail") => `(tactic| (k_here; (with_reducible show wpAny _ _ (subscriptTail _ (Expr.BinOp _ Operator.Mod _ _) (Value.ref _) (Value.int _ _)) _ _ _); k_dflt (refine' Mine.item_num ?hl ?hv ?hk ?hj ?hs ?_; (case hl => exact News.isList (by k_asm) (by ktr_unf)); (case hv => assumption); (case hk => exact Mine.fmod_cast _ _); (case hj => exact Nat.mod_lt _ (by with_reducible assumption)); (case hs => with_reducible assumption); k_whole; intro t')))
local macro_rules | `(tactic| walk_at "subscriptTail") => `(tactic| (k_here; (with_reducible show wpAny _ _ (subscriptTail _ (Expr.BinOp _ Operator.Sub _ _) (Value.ref _) (Value.int _ _)) _ _ _); k_dflt (refine' Mine.item_pred ?hl ?hv ?hj ?hs ?_; (case hl => exact News.isList (by k_asm) (by ktr_unf)); (case hv => assumption); (case hj => with_reducible assumption); (case hs => with_reducible assumption); k_whole; intro t')))
local macro_rules | `(tactic| walk_at "subscriptTail") => `(tactic| (k_here; (with_reducible show wpAny _ _ (subscriptTail _ (Expr.Subscript _ _ _) (Value.ref _) (Value.int _ _)) _ _ _); k_dflt (refine' Mine.item_fun ?hl ?hk ?hs ?_; (case hl => exact News.isList (by k_asm) (by ktr_unf)); (case hk => ktr_rel); (case hs => with_reducible assumption); k_whole)))
local macro_rules | `(tactic| walk_at "getAttr ref") => `(tactic| (k_here; k_dflt (refine' Mine.ring_get ?k1 ?k2 ?k3 ?k3s ?kk ?k4 ?k5 ?k6 ?k7 ?k8 ?k9 ?_; (case k1 => k_asm); (case k2 => k_asm); (case k3 => k_asm); (case k3s => ktr_step); (case kk => ktr_rel); (case k4 => k_is); (case k5 => k_is); (case k6 => k_is); (case k7 => k_is); (case k8 => k_get); (case k9 => k_handed); k_whole)))
local macro_rules | `(tactic| walk_at "compareOp IsNot ref ref") => `(tactic| (k_here; k_dflt (refine' Mine.ring_isnot ?k1 ?k2 ?k3 ?ki ?kj ?_; (case k1 => k_asm); (case k3 => k_asm); (case ki => ktr_rel); (case kj => ktr_rel); (case k2 => ktr_step); k_whole)))
local macro_rules | `(tactic| walk_at "compareOp Eq ref ref") => `(tactic| (k_here; k_dflt (refine' Mine.eq_empty ?k1 ?k2 ?k3 ?_; (case k1 => exact News.isList (by k_asm) (by k_mem)); (case k2 => exact News.isList (by k_asm) (by k_mem)); (case k3 => assumption); k_whole)))
namespace Mine
theorem fill9 : (Mine.hd.heap_39 = Mine.hd.heap_39 ∧ PySem.Challenge.rw_et5010_01 = PySem.Challenge.rw_et5010_01) := by
  k_fill
  exact ⟨rfl, rfl⟩
section
variable {prog : Program} {w : World} {A A₀ : Around} {E : Value → Shared → Prop} {s : Shared} {base h₀ : Heap} {outer : List Env} {env : Env} {L : Addr} {m : Str → Option Value} {p : Program} {loose : List Str} {mean : ExcName → Option Value} {mg mb : Str → Option Value}
  {Q : Value → Shared → Prop} {news : List (Addr × Obj)} {S : RS} {st : Nat → Bool} {nx pv : Nat → Nat}
theorem links_c {em : Nat} {ma rg : Addr} {r : List Nat} {vs : List Value}
    (B : Below A₀ base outer h₀) (F : Fr h₀ L s.heap m) (X : (Mine.hd.heap_39 w.params).In h₀) (N : News h₀ L s.heap news) (T : Top p loose mean mg mb h₀)
    (hA : A.frames = some (env :: outer)) (hf : env.frame = some L) (hke : env.scope.kind = .function) (hd : A.depth < recursionLimit) (hd1 : A.depth + 1 < recursionLimit) (hh : A.handled = none) (hu : A.units + 67 < cLine)
    (sub : ∀ q ∈ blk w.params S st nx pv, q ∈ news) (hma : (ma, listOf ((List.range S.n).map fun k => Value.ref (S.A k)).toArray em) ∈ news) (hrg : (rg, lst vs) ∈ news) (hv : Nums vs r) (hr : ∀ k ∈ r, k < S.n) (hlen : r.length ≤ 1000) (hn : S.n ≤ 1000) (hO : S.Ok) (mn : Maps S.n nx) (mp : Maps S.n pv) (hl : Linked nx pv r)
    (hQ : ∀ h' tk, Fr h₀ L h' m → News h₀ L h' news → Q (.bool true) { s with heap := h', toks := tk }) :
    wpAny (model prog w) A (call (.ref 168) [.ref ma, .ref rg]) Q E s := by
  refine wpAny_call ?_
  refine' code_defC B F X N T hA hf hke ?k6 ?k7 hd ?k9 ?kB ?kD ?_ ?c2 ?c3 ?c4
  (case k6 => k_dflt k_is)
  (case k7 => k_dflt k_is)
  (case k9 => k_dflt (exact BindsTo.of_eq rfl))
  (case kB => exact rfl)
  (case kD => decide +kernel)
  (case c2 => exact rfl)
  (case c3 => exact rfl)
  (case c4 => exact rfl)
  intro g L' h₁ tk' cells' FG F' N' Y' B' X' T' l1
  k_cells Y'
  (try simp only [List.cons_append, List.nil_append] at N')
  try dsimp only
  try k_fold
  k_steps
  unfold Held
  refine' comp_rng (fun _ => false) PyData.int F' ?hh ?hclos ?hcell ?hkind ?hnames ?hx ?h ?hs
  (case hh => exact hh)
  (case hclos => with_unfolding_all rfl)
  (case hcell => decide)
  (case hkind => with_unfolding_all rfl)
  (case hnames => decide)
  (case hx => with_unfolding_all rfl)
  (case hs => intro _; with_unfolding_all rfl)
  k_steps
  rename IsRange _ _ _ _ _ _ _ _ => hrng
  rename Fr g L' _ _ => F9
  rename News g L' _ _ => N9
  unfold Held
  refine ⟨_, _, _, _, _, _, _, _, r.length, rfl, hrng, rng_small hlen, rng_size, (by rw [sizeLine_eq]; omega), F9, N9, ?_, ?_, ?_⟩
  · intro C a v s₂ m₂ E' hC ha hva hNs hm2 keep
    obtain ⟨j, hj, rfl⟩ := rng_mem ha
    obtain ⟨ta, rfl⟩ := hva
    have F10 := F9.keeps keep
    have N10 := N9.grown keep
    clear F9 N9 hQ
    have hj1 := linked_next hl hj
    have hj2 := linked_prev hl hj
    have hpos : 0 < r.length := Nat.lt_of_le_of_lt (Nat.zero_le _) hj
    k_steps
    · exact ⟨_, _, rfl, fun _ _ h => h⟩
    · rename (pv _ == _) = false => h9
      rw [hj2] at h9; simp at h9
    · exact ⟨_, _, rfl, fun _ _ h => h⟩
    · rename (nx _ == _) = false => h9
      rw [hj1] at h9; simp at h9
    · exact ⟨_, _, rfl, fun _ _ h => h⟩
  · intro C a v s₂ m₂ E' hC ha hva hp
    cases hp
  · intro D ys h' tk F10 N10 hD hl hpl hcar
    rw [filter_none (fun _ _ => rfl)] at hcar
    obtain rfl := car_empty hcar
    obtain ⟨nD, N11⟩ := news_add F10 N10 hD hpl
    clear F9 N9 N10
    k_steps
    rename News h₀ L _ (_ :: _) => kN9
    refine hQ _ _ (by assumption) (fun p hp => kN9 p ?_)
    repeat' (first | exact hp | refine List.mem_cons_of_mem _ ?_)
end
end Mine
end
section
set_option maxHeartbeats 1000000
namespace Mine
theorem offT10 : True := by
  w_on
  w_top off
  exact trivial
end Mine
namespace Mine
def ptEs (P : Params) (t0 t1 : Tok) (x y : Int) (tx ty : Tok) : List DictEntry :=
  [⟨PyData.keyHash P (Str.ofString "x"), .str (Str.ofString "x") t0, .int x tx⟩, ⟨PyData.keyHash P (Str.ofString "y"), .str (Str.ofString "y") t1, .int y ty⟩]
def rN (n j : Nat) : Nat := if j + 1 = n then 0 else j + 1
def rP (n j : Nat) : Nat := if j = 0 then n - 1 else j - 1
def updV (f : Nat → Value) (i : Nat) (v : Value) : Nat → Value := fun k => if k = i then v else f k
theorem updV_self {f : Nat → Value} {i : Nat} {v : Value} : updV f i v i = v := by unfold updV; rw [if_pos rfl]
theorem updV_ne {f : Nat → Value} {i j : Nat} {v : Value} (h : j ≠ i) : updV f i v j = f j := by unfold updV; rw [if_neg h]
def ndV (P : Params) (S : RS) (st : Nat → Bool) (nx pv : Nat → Value) (k : Nat) : List DictEntry :=
  [⟨PyData.keyHash P (Str.ofString "i"), .str (Str.ofString "i") (S.tk k 0), .int k (S.ti k)⟩,
   ⟨PyData.keyHash P (Str.ofString "point"), .str (Str.ofString "point") (S.tk k 1), .ref (S.pt k)⟩,
   ⟨PyData.keyHash P (Str.ofString "x"), .str (Str.ofString "x") (S.tk k 2), .int (S.x k) (S.tx k)⟩,
   ⟨PyData.keyHash P (Str.ofString "y"), .str (Str.ofString "y") (S.tk k 3), .int (S.y k) (S.ty k)⟩,
   ⟨PyData.keyHash P (Str.ofString "prev"), .str (Str.ofString "prev") (S.tk k 4), pv k⟩,
   ⟨PyData.keyHash P (Str.ofString "next"), .str (Str.ofString "next") (S.tk k 5), nx k⟩,
   ⟨PyData.keyHash P (Str.ofString "z"), .str (Str.ofString "z") (S.tk k 6), .int 0 (S.tz k)⟩,
   ⟨PyData.keyHash P (Str.ofString "prev_z"), .str (Str.ofString "prev_z") (S.tk k 7), .none⟩,
   ⟨PyData.keyHash P (Str.ofString "next_z"), .str (Str.ofString "next_z") (S.tk k 8), .none⟩,
   ⟨PyData.keyHash P (Str.ofString "steiner"), .str (Str.ofString "steiner") (S.tk k 9), .bool (st k)⟩]
def blkVAt (P : Params) (S : RS) (st : Nat → Bool) (nx pv : Nat → Value) (k : Nat) : List (Addr × Obj) := [(S.A k, instObj 59 (S.D k)), (S.D k, dictOf (ndV P S st nx pv k) 10)]
def blkV (P : Params) (S : RS) (st : Nat → Bool) (nx pv : Nat → Value) : List (Addr × Obj) := (List.range S.n).flatMap (blkVAt P S st nx pv)
section
variable {P : Params} {S : RS} {st : Nat → Bool} {nx pv : Nat → Value} {k : Nat}
theorem memV_a (h : k < S.n) : (S.A k, instObj 59 (S.D k)) ∈ blkV P S st nx pv := List.mem_flatMap.mpr ⟨k, List.mem_range.mpr h, .head _⟩
theorem memV_d (h : k < S.n) : (S.D k, dictOf (ndV P S st nx pv k) 10) ∈ blkV P S st nx pv := List.mem_flatMap.mpr ⟨k, List.mem_range.mpr h, .tail _ (.head _)⟩
theorem upd_blkV (hO : S.Ok) {nx' pv' : Nat → Value} {i : Nat} (hi : i < S.n) (hs : ∀ k, k ≠ i → nx' k = nx k ∧ pv' k = pv k) :
    Upd (S.D i) (dictOf (ndV P S st nx pv i) 10) (dictOf (ndV P S st nx' pv' i) 10) (blkV P S st nx pv) (blkV P S st nx' pv') := by
  obtain ⟨a, b, e, ha, hb⟩ := range_split hi
  unfold blkV
  rw [e, List.flatMap_append, List.flatMap_append, List.flatMap_cons, List.flatMap_cons]
  have same : ∀ l : List Nat, (∀ j ∈ l, j ≠ i ∧ j < S.n) → l.flatMap (blkVAt P S st nx' pv') = l.flatMap (blkVAt P S st nx pv) := fun l hl =>
    flatMap_same fun j hj => by
      obtain ⟨e2, e3⟩ := hs j (hl j hj).1
      unfold blkVAt ndV; rw [e2, e3]
  have off : ∀ l : List Nat, (∀ j ∈ l, j ≠ i ∧ j < S.n) → ∀ p ∈ l.flatMap (blkVAt P S st nx pv), p.1 ≠ S.D i := fun l hl p hp => by
    obtain ⟨j, hj, hp⟩ := List.mem_flatMap.mp hp
    obtain ⟨h1, h2⟩ := hl j hj
    unfold blkVAt at hp
    rcases List.mem_cons.mp hp with rfl | hp
    · exact hO.ad j i h2 hi
    · rcases List.mem_cons.mp hp with rfl | hp
      · exact hO.dd j i h2 hi h1
      · cases hp
  rw [same a ha, same b hb]
  refine Upd.app (off a ha) (off b hb) ?_
  exact .tail (hO.ad i i hi hi) (.head fun p hp => nomatch hp)
end
theorem blkV_blk {P : Params} {S : RS} {st : Nat → Bool} {nxV pvV : Nat → Value} {nx pv : Nat → Nat} (h1 : ∀ j, j < S.n → nxV j = .ref (S.A (nx j))) (h2 : ∀ j, j < S.n → pvV j = .ref (S.A (pv j))) : blkV P S st nxV pvV = blk P S st nx pv := by
  unfold blkV blk
  refine flatMap_same fun j hj => ?_
  have hj := List.mem_range.mp hj
  unfold blkVAt blkAt ndV ndEs
  rw [h1 j hj, h2 j hj]
section
variable {prog : Program} {w : World} {A A₀ : Around} {E : Value → Shared → Prop} {s : Shared} {h₀ : Heap} {L : Addr} {m : Str → Option Value}
  {K : Frag} {S : RS} {st : Nat → Bool} {nx pv : Nat → Value} {expr : Bool} {attr : Option Value} {v : Value} {k : Nat}
theorem ringV_inst {h : Heap} (N : News h₀ L h (blkV w.params S st nx pv)) (hk : k < S.n) : InstAt h (S.A k) (instObj 59 (S.D k)) 59 (some (dictOf (ndV w.params S st nx pv k) 10)) :=
  InstAt.of_news N (memV_a hk) (memV_d hk)
theorem ringV_next {Q : Value → Shared → Prop} (F : Fr h₀ L s.heap m) (X₀ : K.In h₀) (N : News h₀ L s.heap (blkV w.params S st nx pv)) (hk : k < S.n)
    (hg : plainGet K 59 (Str.ofString "next") = true) (hh : hasDictIn K 59 = true) (ha : findIn K (.ref 59) (Str.ofString "next") = some attr) (hn : noGet K attr = true) (hx : nx k = v) (hv : handedIn v = true) (h : Q v { s with toks := s.toks + 1 }) :
    wpAny (model prog w) A (getAttr (.ref (S.A k)) (Str.ofString "next") expr) Q E s :=
  get_own F X₀ (ringV_inst N hk) hg hh ha hn (by rw [← hx]; rfl) hv h
theorem ringV_set_pv {Q : Unit → Shared → Prop} (F : Fr h₀ L s.heap m) (X₀ : K.In h₀) (N : News h₀ L s.heap (blkV w.params S st nx pv)) (hO : S.Ok) (hk : k < S.n)
    (hs : findIn K (.ref 59) "__setattr__" = some (some (.builtin "object.__setattr__"))) (hp : plainOver K 59 = true) (ht : takerIn K 59 (Str.ofString "prev") = some none) (hh : hasDictIn K 59 = true)
    (h : ∀ h', Fr h₀ L h' m → News h₀ L h' (blkV w.params S st nx (updV pv k v)) → Q () { s with heap := h', toks := s.toks + 2 }) :
    wpAny (model prog w) A (setAttr (.ref (S.A k)) (Str.ofString "prev") v) Q E s := by
  refine set_dict F X₀ N (ringV_inst N hk) rfl hs hp ht hh (by rfl) ?_ (upd_blkV (nx' := nx) (pv' := updV pv k v) hO hk fun j hj => ⟨rfl, updV_ne hj⟩) (by exact Nat.le_of_ble_eq_true rfl) h
  unfold ndV
  rw [updV_self]
  rfl
theorem ringV_set_nx {Q : Unit → Shared → Prop} (F : Fr h₀ L s.heap m) (X₀ : K.In h₀) (N : News h₀ L s.heap (blkV w.params S st nx pv)) (hO : S.Ok) (hk : k < S.n)
    (hs : findIn K (.ref 59) "__setattr__" = some (some (.builtin "object.__setattr__"))) (hp : plainOver K 59 = true) (ht : takerIn K 59 (Str.ofString "next") = some none) (hh : hasDictIn K 59 = true)
    (h : ∀ h', Fr h₀ L h' m → News h₀ L h' (blkV w.params S st (updV nx k v) pv) → Q () { s with heap := h', toks := s.toks + 2 }) :
    wpAny (model prog w) A (setAttr (.ref (S.A k)) (Str.ofString "next") v) Q E s := by
  refine set_dict F X₀ N (ringV_inst N hk) rfl hs hp ht hh (by rfl) ?_ (upd_blkV (nx' := updV nx k v) (pv' := pv) hO hk fun j hj => ⟨updV_ne hj, rfl⟩) (by exact Nat.le_of_ble_eq_true rfl) h
  unfold ndV
  rw [updV_self]
  rfl
end
/-- one node more -/
theorem grow {P : Params} {S : RS} {st : Nat → Bool} {nx pv : Nat → Nat} {g h : Heap} {L a d : Addr} {rest : List (Addr × Obj)} {k : Nat} {t0 t1 t2 t3 t4 t5 t6 t7 t8 t9 ti tx ty tz : Tok} {pt : Addr} {x y : Int} (hk : S.n = k)
    (hst : st k = false) (hnx : Maps k nx) (hpv : Maps k pv) (hO : S.Ok) (hy : 0 ≤ y ∧ y ≤ 2) (sub : ∀ q ∈ blk P S st nx pv, q ∈ rest) (hlt : ∀ q ∈ rest, q.1 < d) (hda : d < a)
    (N : News g L h ((a, instObj 59 d) :: (d, dictOf [⟨PyData.keyHash P (Str.ofString "i"), .str (Str.ofString "i") t0, .int (k : Int) ti⟩,
   ⟨PyData.keyHash P (Str.ofString "point"), .str (Str.ofString "point") t1, .ref pt⟩,
   ⟨PyData.keyHash P (Str.ofString "x"), .str (Str.ofString "x") t2, .int x tx⟩,
   ⟨PyData.keyHash P (Str.ofString "y"), .str (Str.ofString "y") t3, .int y ty⟩,
   ⟨PyData.keyHash P (Str.ofString "prev"), .str (Str.ofString "prev") t4, .none⟩,
   ⟨PyData.keyHash P (Str.ofString "next"), .str (Str.ofString "next") t5, .none⟩,
   ⟨PyData.keyHash P (Str.ofString "z"), .str (Str.ofString "z") t6, .int 0 tz⟩,
   ⟨PyData.keyHash P (Str.ofString "prev_z"), .str (Str.ofString "prev_z") t7, .none⟩,
   ⟨PyData.keyHash P (Str.ofString "next_z"), .str (Str.ofString "next_z") t8, .none⟩,
   ⟨PyData.keyHash P (Str.ofString "steiner"), .str (Str.ofString "steiner") t9, .bool false⟩] 10) :: rest)) :
    ∃ S' : RS, S'.n = k + 1 ∧ S'.A k = a ∧ S'.D k = d ∧ S'.x k = x ∧ S'.y k = y ∧ (∀ j, j < k → S'.A j = S.A j ∧ S'.D j = S.D j ∧ S'.x j = S.x j ∧ S'.y j = S.y j) ∧ S'.Ok ∧
      ∃ nxV pvV, (∀ j, j < k → nxV j = .ref (S'.A (nx j)) ∧ pvV j = .ref (S'.A (pv j))) ∧ News g L h (blkV P S' st nxV pvV) := by
  subst hk
  let S' : RS := {
    n := S.n + 1, A := fun j => if j = S.n then a else S.A j, D := fun j => if j = S.n then d else S.D j
    tk := fun j i => if j = S.n then [t0, t1, t2, t3, t4, t5, t6, t7, t8, t9].getD i 0 else S.tk j i
    ti := fun j => if j = S.n then ti else S.ti j, pt := fun j => if j = S.n then pt else S.pt j
    x := fun j => if j = S.n then x else S.x j, tx := fun j => if j = S.n then tx else S.tx j
    y := fun j => if j = S.n then y else S.y j, ty := fun j => if j = S.n then ty else S.ty j, tz := fun j => if j = S.n then tz else S.tz j }
  have eq : ∀ j, j < S.n → S'.A j = S.A j ∧ S'.D j = S.D j ∧ S'.x j = S.x j ∧ S'.y j = S.y j := fun j hj => ⟨if_neg (Nat.ne_of_lt hj), if_neg (Nat.ne_of_lt hj), if_neg (Nat.ne_of_lt hj), if_neg (Nat.ne_of_lt hj)⟩
  have la : ∀ j, j < S.n → S.A j < d := fun j hj => hlt _ (sub _ (mem_a hj))
  have ld : ∀ j, j < S.n → S.D j < d := fun j hj => hlt _ (sub _ (mem_d hj))
  have eA : S'.A S.n = a := if_pos rfl
  have eD : S'.D S.n = d := if_pos rfl
  have ey : S'.y S.n = y := if_pos rfl
  refine ⟨S', rfl, eA, eD, if_pos rfl, ey, eq, ⟨?_, ?_, ?_, ?_⟩, updV (fun j => .ref (S'.A (nx j))) S.n .none, updV (fun j => .ref (S'.A (pv j))) S.n .none, fun j hj => ⟨updV_ne (Nat.ne_of_lt hj), updV_ne (Nat.ne_of_lt hj)⟩, ?_⟩
  · intro i j hi hj
    rcases Nat.lt_or_eq_of_le (Nat.le_of_lt_succ hi) with h1 | h1 <;> rcases Nat.lt_or_eq_of_le (Nat.le_of_lt_succ hj) with h2 | h2
    · rw [(eq i h1).1, (eq j h2).2.1]; exact hO.ad i j h1 h2
    · rw [(eq i h1).1, h2, eD]; exact Nat.ne_of_lt (la i h1)
    · rw [h1, eA, (eq j h2).2.1]; exact Nat.ne_of_gt (Nat.lt_trans (ld j h2) hda)
    · rw [h1, h2, eA, eD]; exact Nat.ne_of_gt hda
  · intro i j hi hj hij
    rcases Nat.lt_or_eq_of_le (Nat.le_of_lt_succ hi) with h1 | h1 <;> rcases Nat.lt_or_eq_of_le (Nat.le_of_lt_succ hj) with h2 | h2
    · rw [(eq i h1).2.1, (eq j h2).2.1]; exact hO.dd i j h1 h2 hij
    · rw [(eq i h1).2.1, h2, eD]; exact Nat.ne_of_lt (ld i h1)
    · rw [h1, eD, (eq j h2).2.1]; exact Nat.ne_of_gt (ld j h2)
    · exact absurd (h1.trans h2.symm) hij
  · intro i j hi hj hij
    rcases Nat.lt_or_eq_of_le (Nat.le_of_lt_succ hi) with h1 | h1 <;> rcases Nat.lt_or_eq_of_le (Nat.le_of_lt_succ hj) with h2 | h2
    · rw [(eq i h1).1, (eq j h2).1]; exact hO.aa i j h1 h2 hij
    · rw [(eq i h1).1, h2, eA]; exact Nat.ne_of_lt (Nat.lt_trans (la i h1) hda)
    · rw [h1, eA, (eq j h2).1]; exact Nat.ne_of_gt (Nat.lt_trans (la j h2) hda)
    · exact absurd (h1.trans h2.symm) hij
  · intro i hi
    rcases Nat.lt_or_eq_of_le (Nat.le_of_lt_succ hi) with h1 | h1
    · rw [(eq i h1).2.2.2]; exact hO.yy i h1
    · rw [h1, ey]; exact hy
  · intro p hp
    obtain ⟨j, hj, hp⟩ := List.mem_flatMap.mp hp
    rcases Nat.lt_or_eq_of_le (Nat.le_of_lt_succ (List.mem_range.mp hj)) with h1 | h1
    · refine N p (.tail _ (.tail _ (sub p (List.mem_flatMap.mpr ⟨j, List.mem_range.mpr h1, ?_⟩))))
      have n1 := hnx j h1
      have n2 := hpv j h1
      have ne : ∀ {α : Type} {u v : α}, (if j = S.n then u else v) = v := fun {_ _ _} => if_neg (Nat.ne_of_lt h1)
      have e1 : S'.A (nx j) = S.A (nx j) := (eq _ n1).1
      have e2 : S'.A (pv j) = S.A (pv j) := (eq _ n2).1
      unfold blkVAt ndV at hp
      unfold blkAt ndEs
      rw [updV_ne (Nat.ne_of_lt h1), updV_ne (Nat.ne_of_lt h1), e1, e2] at hp
      have q0 : S'.A j = S.A j := ne
      have q1 : S'.D j = S.D j := ne
      have q2 : S'.tk j = S.tk j := funext fun i => ne
      have q3 : S'.ti j = S.ti j := ne
      have q4 : S'.pt j = S.pt j := ne
      have q5 : S'.x j = S.x j := ne
      have q6 : S'.tx j = S.tx j := ne
      have q7 : S'.y j = S.y j := ne
      have q8 : S'.ty j = S.ty j := ne
      have q9 : S'.tz j = S.tz j := ne
      rw [q0, q1, q2, q3, q4, q5, q6, q7, q8, q9] at hp
      exact hp
    · subst h1
      have po : ∀ {α : Type} {u v : α}, (if S.n = S.n then u else v) = u := fun {_ _ _} => if_pos rfl
      have q2 : S'.tk S.n = fun i => [t0, t1, t2, t3, t4, t5, t6, t7, t8, t9].getD i 0 := funext fun i => po
      have q3 : S'.ti S.n = ti := po
      have q4 : S'.pt S.n = pt := po
      have q5 : S'.x S.n = x := po
      have q6 : S'.tx S.n = tx := po
      have q8 : S'.ty S.n = ty := po
      have q9 : S'.tz S.n = tz := po
      unfold blkVAt ndV at hp
      rw [updV_self, updV_self, hst, eA, eD, q2, q3, q4, q5, q6, ey, q8, q9] at hp
      refine N p ?_
      rcases List.mem_cons.mp hp with rfl | hp
      · exact .head _
      · rcases List.mem_cons.mp hp with rfl | hp
        · exact .tail _ (.head _)
        · cases hp
end Mine
end
section
set_option maxHeartbeats 1000000
namespace Mine
theorem offT11 : True := by
  w_on
  w_top off
  exact trivial
end Mine
local macro_rules | `(tactic| walk_at "exec If") => `(tactic| refine Mine.held ?_)
local macro_rules | `(tactic| k_room) => `(tactic| ((try simp only [depth_under_make, depth_under_kw, depth_in1, depth_deeper, depth_caller]); (try dsimp only); omega))
local macro_rules | `(tactic| walk_at "getAttr ref") => `(tactic| (k_here; k_dflt (refine' Mine.ringV_next ?k1 ?k2 ?k3 ?kk ?k4 ?k5 ?k6 ?k7 ?k8 ?k9 ?_; (case k1 => k_asm); (case k2 => k_asm); (case k3 => k_asm); (case kk => omega); (case k4 => k_is); (case k5 => k_is); (case k6 => k_is); (case k7 => k_is); (case k8 => first | with_reducible assumption | exact (Mine.updV_ne (by omega)).trans (by with_reducible assumption)); (case k9 => exact rfl); k_whole)))
local macro_rules | `(tactic| walk_at "setAttr ref") => `(tactic| (k_here; k_dflt (first
  | (refine' Mine.ringV_set_pv ?k1 ?k2 ?k3 ?k4 ?kk ?k6 ?k7 ?k8 ?k9 ?_; (case k1 => k_asm); (case k2 => k_asm); (case k3 => k_asm); (case k4 => k_asm); (case kk => omega); (case k6 => k_is); (case k7 => k_is); (case k8 => k_is); (case k9 => k_is); k_whole; intro h' F' N'; (try k_sweep))
  | (refine' Mine.ringV_set_nx ?k1 ?k2 ?k3 ?k4 ?kk ?k6 ?k7 ?k8 ?k9 ?_; (case k1 => k_asm); (case k2 => k_asm); (case k3 => k_asm); (case k4 => k_asm); (case kk => omega); (case k6 => k_is); (case k7 => k_is); (case k8 => k_is); (case k9 => k_is); k_whole; intro h' F' N'; (try k_sweep)))))
namespace Mine
theorem fill11 : (Mine.hd.heap_39 = Mine.hd.heap_39 ∧ PySem.Challenge.rw_et5010_01 = PySem.Challenge.rw_et5010_01) := by
  k_fill
  exact ⟨rfl, rfl⟩
theorem rN_maps (k : Nat) : Maps k (rN k) := fun j hj => by unfold rN; split <;> omega
theorem rP_maps (k : Nat) : Maps k (rP k) := fun j hj => by unfold rP; split <;> omega
theorem fresh_of2 {h g : Heap} {L' : Addr} {h' : Heap} {c : Addr} {o : Obj} {r news : List (Addr × Obj)} (G : GSub h g (news.map (·.1))) (N : News g L' h' r) (hm : (c, o) ∈ r) (ha : ∀ q ∈ news, q.1 < c) : h.get? c = none := by
  cases e : h.get? c with
  | none => rfl
  | some q =>
    have := G c q e (fun hc => by obtain ⟨q, hq, e⟩ := List.mem_map.mp hc; exact Nat.ne_of_lt (ha q hq) e)
    rw [(N _ hm).2.2] at this; cases this
section
variable {prog : Program} {w : World} {A A₀ : Around} {E : Value → Shared → Prop} {s : Shared} {base h₀ : Heap} {outer : List Env} {env : Env} {L : Addr} {m : Str → Option Value} {p : Program} {loose : List Str} {mean : ExcName → Option Value} {mg mb : Str → Option Value}
  {Q : Value → Shared → Prop} {S : RS} {st : Nat → Bool}
theorem insert_c {k : Nat} {tk : Tok} {lastV : Value} {pt dp : Addr} {t0 t1 : Tok} {x y : Int} {tx ty : Tok}
    (B : Below A₀ base outer h₀) (F : Fr h₀ L s.heap m) (X : (Mine.hd.heap_39 w.params).In h₀) (T : Top p loose mean mg mb h₀)
    (N : News h₀ L s.heap ((pt, instObj 31 dp) :: (dp, dictOf (ptEs w.params t0 t1 x y tx ty) 2) :: blk w.params S st (rN k) (rP k)))
    (hA : A.frames = some (env :: outer)) (hf : env.frame = some L) (hke : env.scope.kind = .function) (hd : A.depth + 6 < recursionLimit)
    (hk : S.n = k) (hst : st k = false) (hO : S.Ok) (hy : 0 ≤ y ∧ y ≤ 2) (hlast : lastV = if k = 0 then .none else .ref (S.A (k - 1)))
    (hQ : ∀ h' tk' S', S'.n = k + 1 → S'.x k = x → S'.y k = y → (∀ j, j < k → S'.A j = S.A j ∧ S'.D j = S.D j ∧ S'.x j = S.x j ∧ S'.y j = S.y j) → S'.Ok → Fr h₀ L h' m → News h₀ L h' (blk w.params S' st (rN (k + 1)) (rP (k + 1))) →
      GSub s.heap h' (((pt, instObj 31 dp) :: (dp, dictOf (ptEs w.params t0 t1 x y tx ty) 2) :: blk w.params S st (rN k) (rP k)).map (·.1)) → s.heap.get? (S'.A k) = none → s.heap.get? (S'.D k) = none → Q (.ref (S'.A k)) { s with heap := h', toks := tk' }) :
    wpAny (model prog w) A (call (.ref 98) [.int (k : Int) tk, .ref pt, lastV]) Q E s := by
  obtain ⟨ah, ad, af, ag, au⟩ := A
  dsimp only at hA hd
  subst hA
  refine wpAny_call ?_
  refine' code_defG B F X N T rfl hf hke ?k6 ?k7 (by k_room) ?k9 ?kB ?_ ?c2 ?c3 ?c4 ?c5
  (case k6 => k_dflt k_is)
  (case k7 => k_dflt k_is)
  (case k9 => k_dflt (exact BindsTo.of_eq rfl))
  (case c5 => decide)
  (case kB => exact locs rfl)
  (case c2 => exact rfl)
  (case c3 => exact rfl)
  (case c4 => exact rfl)
  intro g L' h₁ FG F' N' B' X' T' G'
  try dsimp only
  try k_fold
  k_steps
  rename News g L' _ (_ :: _) => N9
  rename _ ∧ _ ∧ AllLt _ _ => l1
  rename @LT.lt Nat _ _ _ => l2
  obtain ⟨l1a, l1b, l1c⟩ := l1
  have hlt : ∀ q ∈ ((pt, instObj 31 dp) :: (dp, dictOf (ptEs w.params t0 t1 x y tx ty) 2) :: blk w.params S st (rN k) (rP k)), q.1 < _ := fun q hq => by
    rcases List.mem_cons.mp hq with rfl | hq
    · exact l1a
    · rcases List.mem_cons.mp hq with rfl | hq
      · exact l1b
      · exact tb_ltOf l1c q hq
  have fa := fresh_of2 G' N9 (.head _) (fun q hq => Nat.lt_trans (hlt q hq) l2)
  have fd := fresh_of2 G' N9 (.tail _ (.head _)) hlt
  obtain ⟨S', hn', hA', hD', hx', hy', hold, hO', nxV, pvV, hV, N2⟩ := grow hk hst (rN_maps k) (rP_maps k) hO hy (sub_tail (sub_tail fun _ h => h)) hlt l2 N9
  clear N9
  rename Fr g L' _ _ => F9
  subst hA'
  subst hD'
  unfold Held
  refine wpAny_If ?_
  by_cases hk0 : k = 0
  · rw [if_pos hk0] at hlast
    subst hlast
    k_steps
    rename News h₀ L _ (blkV _ _ _ _ _) => N5
    rename Fr h₀ L _ m => F5
    have e1 : ∀ j, j < S'.n → updV nxV k (.ref (S'.A k)) j = .ref (S'.A (rN (k + 1) j)) := fun j hj => by
      have : j = k := by omega
      subst this
      rw [updV_self]; unfold rN; rw [if_pos rfl, hk0]
    have e2 : ∀ j, j < S'.n → updV pvV k (.ref (S'.A k)) j = .ref (S'.A (rP (k + 1) j)) := fun j hj => by
      have : j = k := by omega
      subst this
      rw [updV_self]; unfold rP; rw [if_pos hk0]; rfl
    rw [blkV_blk e1 e2] at N5
    exact hQ _ _ S' hn' hx' hy' hold hO' F5 N5 (gsub_after G' (by assumption)) fa fd
  · rw [if_neg hk0, ← (hold (k - 1) (by omega)).1] at hlast
    subst hlast
    have hN : nxV (k - 1) = .ref (S'.A 0) := by rw [(hV (k - 1) (by omega)).1]; unfold rN; rw [if_pos (by omega)]
    k_steps
    rename News h₀ L _ (blkV _ _ _ _ _) => N5
    rename Fr h₀ L _ m => F5
    have e1 : ∀ j, j < S'.n → updV (updV nxV k (.ref (S'.A 0))) (k - 1) (.ref (S'.A k)) j = .ref (S'.A (rN (k + 1) j)) := fun j hj => by
      by_cases h1 : j = k - 1
      · rw [h1, updV_self]; unfold rN; rw [if_neg (by omega)]; rw [show k - 1 + 1 = k by omega]
      · rw [updV_ne h1]
        by_cases h2 : j = k
        · rw [h2, updV_self]; unfold rN; rw [if_pos rfl]
        · rw [updV_ne h2, (hV j (by omega)).1]; unfold rN; rw [if_neg (by omega), if_neg (by omega)]
    have e2 : ∀ j, j < S'.n → updV (updV pvV k (.ref (S'.A (k - 1)))) 0 (.ref (S'.A k)) j = .ref (S'.A (rP (k + 1) j)) := fun j hj => by
      by_cases h1 : j = 0
      · rw [h1, updV_self]; unfold rP; rw [if_pos rfl]; rfl
      · rw [updV_ne h1]
        by_cases h2 : j = k
        · rw [h2, updV_self]; unfold rP; rw [if_neg (by omega)]
        · rw [updV_ne h2, (hV j (by omega)).2]; unfold rP; rw [if_neg h1, if_neg h1]
    rw [blkV_blk e1 e2] at N5
    exact hQ _ _ S' hn' hx' hy' hold hO' F5 N5 (gsub_after G' (by assumption)) fa fd
end
end Mine
end
section
set_option maxHeartbeats 1000000
namespace Mine
theorem offT12 : True := by
  w_on
  w_top off
  exact trivial
end Mine
namespace Mine
def TurnG (h₀ : Heap) (L : Addr) (own : List (Addr × Obj)) (I : Addr) (s : Shared) (J : (Str → Option Value) → List (Addr × Obj) → Prop) (f : Flow) (s₂ : Shared) : Prop :=
  f = .next ∧ ∃ h' tk' m₂ nx', s₂ = { s with heap := h', toks := tk' } ∧ Fr h₀ L h' m₂ ∧ News h₀ L h' (own ++ nx') ∧ (∀ p ∈ nx', p.1 ≠ I) ∧ J m₂ nx'
theorem TurnG.intro {h₀ : Heap} {L : Addr} {own : List (Addr × Obj)} {I : Addr} {s : Shared} {J : (Str → Option Value) → List (Addr × Obj) → Prop} {h' : Heap} {tk' : Nat} {m₂ : Str → Option Value} {nx' : List (Addr × Obj)}
    (F : Fr h₀ L h' m₂) (N : News h₀ L h' (own ++ nx')) (ho : ∀ p ∈ nx', p.1 ≠ I) (hJ : J m₂ nx') : TurnG h₀ L own I s J .next { s with heap := h', toks := tk' } := ⟨rfl, h', tk', m₂, nx', rfl, F, N, ho, hJ⟩
section
variable {prog : Program} {w : World} {A : Around} {E : Value → Shared → Prop} {s : Shared} {env : Env} {h₀ : Heap} {x : Str} {body : List Stmt} {Q : Flow → Shared → Prop}
theorem rng_loop {r : Addr} {n : Nat} {t₀ u₀ v₀ : Tok} {m₀ : Str → Option Value} {news : List (Addr × Obj)} (J : Nat → (Str → Option Value) → List (Addr × Obj) → Prop)
    (hh : A.handled = none) (hr : IsRange s.heap r 0 (n : Int) 1 t₀ u₀ v₀) (hn : n ≤ 1000) (F : Fr h₀ env.locals s.heap m₀) (N : News h₀ env.locals s.heap news) (h0 : J 0 m₀ news)
    (turn : ∀ i t m₁ nx h tk I own, i < n → J i m₁ nx → (∀ p ∈ nx, p.1 ≠ I) → (∀ p ∈ own, p.1 = I) → (∃ o, (I, o) ∈ own) → Fr h₀ env.locals h (fun y => if y = x then some (.int ((i : Nat) : Int) t) else m₁ y) → News h₀ env.locals h (own ++ nx) →
      wpAny (model prog w) A (execs body env) (TurnG h₀ env.locals own I s (J (i + 1))) E { s with heap := h, toks := tk })
    (done : ∀ m₁ nx h tk, J n m₁ nx → Fr h₀ env.locals h m₁ → News h₀ env.locals h nx → Q .next { s with heap := h, toks := tk }) :
    wpAny (model prog w) A (pyIter (.ref r)) (fun it s₂ => LoopAtV prog w A h₀ env x body Q E it s₂) E s := by
  refine wpAny_pyIter_range hr (rng_small hn) ?_
  have W : Walks prog w A s.heap.objs.size [s.heap.objs.size] [s.heap.objs.size] n (fun i v => i < n ∧ ∃ t, v = .int (0 + i * 1) t)
      (fun i h => IsRangeIter h s.heap.objs.size (0 + (i : Nat) * 1) ((n : Int) - (i : Nat)) 1) := (Walks.range hh _ 0 1 n).bound
  refine ⟨s.heap.objs.size, _, _, n, _, _, m₀, news, J, rfl, W, ?_, ?_, ?_, (by show IsRangeIter _ _ _ _ _; rw [rng_size]; simpa using Heap.get?_push_size _ rfl), F.push _, (fun p hp => ⟨Heap.get?_push_of_some _ (N p hp).1, (N p hp).2⟩), h0, ?_, ?_⟩
  · intro hm
    exact absurd F.ns.lt ((List.mem_singleton.mp hm) ▸ Nat.lt_irrefl _)
  · intro b hb
    rw [List.mem_singleton.mp hb]
    exact next_is_new F
  · intro p hp hI
    exact absurd (Heap.lt_size (N p hp).1) ((List.mem_singleton.mp hI) ▸ Nat.lt_irrefl _)
  · rintro i v m₁ nx s₁ own ⟨h, tk, rfl⟩ hi ⟨_, t, rfl⟩ hJ hoff hown _ hfull hSt F₁ N₁
    have e : (0 : Int) + (i : Int) * 1 = (i : Int) := by omega
    rw [e] at F₁
    refine wpAny_mono (turn i t m₁ nx h tk s.heap.objs.size own hi hJ (fun p hp q => hoff p hp (List.mem_singleton.mpr q)) (fun p hp => List.mem_singleton.mp (hown p hp)) ⟨_, hfull _ (.head _) (next_is_new F) _ hSt⟩ F₁ N₁) (fun f s₂ p => ?_) fun _ _ e => e
    obtain ⟨rfl, h', tk', m₂, nx', rfl, F', N', ho, hJ'⟩ := p
    exact .next ⟨rfl, h', tk', m₂, nx', rfl, F', N', fun p hp q => ho p hp (List.mem_singleton.mp q), hJ'⟩
  · rintro h' tk m' news' F' N' _ hJ
    exact done m' news' h' tk hJ F' N'
end
end Mine
end
section
set_option maxHeartbeats 1000000
namespace Mine
theorem offT13 : True := by
  w_on
  w_top off
  exact trivial
end Mine
namespace Mine
theorem len_base {prog : Program} {w : World} {A : Around} {E : Value → Shared → Prop} {s : Shared} {a : Addr} {n : Nat} {f : Nat → Value} {Q : Value → Shared → Prop} (hl : s.heap.IsList a ((List.range n).map f).toArray) (hn : n ≤ 1000)
    (h : Q (.int (n : Int) (s.toks + 1)) { s with toks := s.toks + 1 + 1 }) : wpAny (model prog w) A (call (.builtin "len") [.ref a]) Q E s := by
  have e : ((List.range n).map f).toArray.size = n := by simp
  refine len_list hl (by omega) ?_
  rw [e]; exact h
theorem news_pre2 {h₀ h : Heap} {L : Addr} {a b : Addr × Obj} {l r : List (Addr × Obj)} (N : News h₀ L h (a :: b :: r)) (sub : ∀ q ∈ l, q ∈ r) : News h₀ L h (a :: b :: l) := fun p hp => N p (by
  rcases List.mem_cons.mp hp with rfl | hp
  · exact .head _
  · rcases List.mem_cons.mp hp with rfl | hp
    · exact .tail _ (.head _)
    · exact .tail _ (.tail _ (sub p hp)))
/-- what is off the addresses stays in the ledger -/
theorem news_off {h₀ h h' : Heap} {L : Addr} {l : List (Addr × Obj)} {as : List Addr} (N : News h₀ L h l) (G : GSub h h' as) (off : ∀ p ∈ l, p.1 ∉ as) : News h₀ L h' l := fun p hp => ⟨G _ _ (N p hp).1 (off p hp), (N p hp).2⟩
theorem append_ma {prog : Program} {w : World} {A : Around} {E : Value → Shared → Prop} {s : Shared} {h₀ : Heap} {L ma : Addr} {m : Str → Option Value} {rest : List (Addr × Obj)} {its : Array Value} {n : Nat} {x : Value} {Q : Value → Shared → Prop}
    (F : Fr h₀ L s.heap m) (N : News h₀ L s.heap ((ma, listOf its n) :: rest)) (hoff : Off rest ma) (hsz : its.size ≤ 1000) (h : ∀ h', Fr h₀ L h' m → News h₀ L h' ((ma, listOf (its.push x) (n + 1)) :: rest) → Q .none { s with heap := h' }) :
    wpAny (model prog w) A (call (.builtin "list.append") [.ref ma, x]) Q E s := append_K F N (.head hoff) h (by rw [sizeLine_eq]; omega)
theorem refs_push {S S' : RS} {i : Nat} (h : ∀ j, j < i → S'.A j = S.A j) : (((List.range i).map fun k => Value.ref (S.A k)).toArray).push (.ref (S'.A i)) = ((List.range (i + 1)).map fun k => Value.ref (S'.A k)).toArray := by
  rw [List.push_toArray, List.range_succ, List.map_append]
  congr 1
  congr 1
  exact List.map_congr_left fun j hj => by rw [h j (List.mem_range.mp hj)]
theorem blk_addr {P : Params} {S : RS} {st : Nat → Bool} {nx pv : Nat → Nat} {q : Addr × Obj} (h : q ∈ blk P S st nx pv) : ∃ j, j < S.n ∧ (q.1 = S.A j ∨ q.1 = S.D j) := by
  obtain ⟨j, hj, h⟩ := List.mem_flatMap.mp h
  refine ⟨j, List.mem_range.mp hj, ?_⟩
  unfold blkAt at h
  rcases List.mem_cons.mp h with rfl | h
  · exact .inl rfl
  · rcases List.mem_cons.mp h with rfl | h
    · exact .inr rfl
    · cases h
theorem off_grow {P : Params} {S S' : RS} {st st' : Nat → Bool} {nx pv nx' pv' : Nat → Nat} {i : Nat} {c : Addr} (hn : S.n = i) (hn' : S'.n = i + 1) (hold : ∀ j, j < i → S'.A j = S.A j ∧ S'.D j = S.D j) (ho : Off (blk P S st nx pv) c) (ha : S'.A i ≠ c) (hd : S'.D i ≠ c) :
    Off (blk P S' st' nx' pv') c := fun q hq => by
  obtain ⟨j, hj, e⟩ := blk_addr hq
  by_cases h : j = i
  · subst h
    rcases e with e | e
    · rw [e]; exact ha
    · rw [e]; exact hd
  · have hj' : j < i := by omega
    rcases e with e | e
    · rw [e, (hold j hj').1]; exact ho _ (mem_a (by omega))
    · rw [e, (hold j hj').2]; exact ho _ (mem_d (by omega))
theorem keep_own {h₀ h h' : Heap} {L x d ma I : Addr} {o1 o2 o : Obj} {own bl : List (Addr × Obj)} (N : News h₀ L h ((x, o1) :: (d, o2) :: (ma, o) :: (own ++ bl))) (G : GSub h h' (((x, o1) :: (d, o2) :: bl).map (·.1)))
    (l1 : ma < d) (l2 : d < x) (hlt : ∀ q ∈ own ++ bl, q.1 < d) (hown : ∀ p ∈ own, p.1 = I) (hnx : ∀ p ∈ (ma, o) :: bl, p.1 ≠ I) (hoff : Off bl ma) : News h₀ L h' ((ma, o) :: own) :=
  news_off (fun p hp => N p (by
    rcases List.mem_cons.mp hp with rfl | hp
    · exact .tail _ (.tail _ (.head _))
    · exact .tail _ (.tail _ (.tail _ (List.mem_append_left _ hp))))) G (fun p hp hc => by
    obtain ⟨q, hq, e1⟩ := List.mem_map.mp hc
    have hp2 : p.1 < d := by
      rcases List.mem_cons.mp hp with rfl | hp
      · exact l1
      · exact hlt p (List.mem_append_left _ hp)
    rcases List.mem_cons.mp hq with rfl | hq
    · exact Nat.ne_of_lt (Nat.lt_trans hp2 l2) e1.symm
    · rcases List.mem_cons.mp hq with rfl | hq
      · exact Nat.ne_of_lt hp2 e1.symm
      · rcases List.mem_cons.mp hp with rfl | hp
        · exact hoff q hq e1
        · exact hnx q (.tail _ hq) (e1.trans (hown p hp)))
theorem news_cat {h₀ h : Heap} {L : Addr} {a : Addr × Obj} {own bl : List (Addr × Obj)} (N : News h₀ L h (a :: own)) (N' : News h₀ L h bl) : News h₀ L h (a :: (own ++ bl)) := fun p hp => by
  rcases List.mem_cons.mp hp with rfl | hp
  · exact N _ (.head _)
  · exact (List.mem_append.mp hp).elim (fun h => N _ (.tail _ h)) (N' _)
theorem news_turn {h₀ h : Heap} {L : Addr} {a : Addr × Obj} {own bl : List (Addr × Obj)} (N : News h₀ L h (a :: (own ++ bl))) : News h₀ L h (own ++ a :: bl) := fun p hp => N p (by
  rcases List.mem_append.mp hp with hp | hp
  · exact .tail _ (List.mem_append_left _ hp)
  · rcases List.mem_cons.mp hp with rfl | hp
    · exact .head _
    · exact .tail _ (List.mem_append_right _ hp))
def KJ (P : Params) (rl ma : Addr) (x y : Nat → Int) (i : Nat) (m : Str → Option Value) (nx : List (Addr × Obj)) : Prop :=
  ∃ S e, nx = (ma, listOf ((List.range i).map fun k => Value.ref (S.A k)).toArray e) :: blk P S (fun _ => false) (rN i) (rP i) ∧ m (Str.ofString "rows") = some (.ref rl) ∧ m (Str.ofString "made") = some (.ref ma) ∧
    m (Str.ofString "node") = some (if i = 0 then .none else .ref (S.A (i - 1))) ∧ S.n = i ∧ S.Ok ∧ (∀ j, j < i → S.x j = x j ∧ S.y j = y j) ∧ Off (blk P S (fun _ => false) (rN i) (rP i)) ma
end Mine
local macro_rules | `(tactic| walk_at "pyIter ref") => `(tactic| refine Mine.held ?_)
local macro_rules | `(tactic| walk_at "call ref") => `(tactic| ((with_reducible show wpAny _ _ (call (Value.ref 98) _) _ _ _); refine Mine.held ?_))
local macro_rules | `(tactic| k_room) => `(tactic| ((try simp only [depth_under_make, depth_under_kw, depth_in1, depth_deeper, depth_caller]); (try dsimp only); omega))
local macro_rules | `(tactic| walk_at "call builtin:len") => `(tactic| (k_here; (with_reducible show wpAny _ _ (call (Value.builtin "len") [Value.ref _]) _ _ _); k_dflt (refine' Mine.len_base ?hl ?hs ?_; (case hl => refine' Mine.Heap.IsList.fr ?ha ?hb; (case hb => k_asm); (case ha => assumption)); (case hs => assumption); k_whole)))
local macro_rules | `(tactic| walk_at "subscriptTail") => `(tactic| (k_here; (with_reducible show wpAny _ _ (subscriptTail _ (Expr.Constant _ _ _) (Value.ref _) (Value.int _ _)) _ _ _); k_dflt (refine' item_tupleT ?t ?a ?b ?c ?d ?_; (case t => exact IsTup.keeps (by assumption) (Fr.keep (by k_asm))); (case a => decide); (case b => decide); (case c => rfl); (case d => rfl); k_whole)))
local macro_rules | `(tactic| walk_at "subscriptTail") => `(tactic| (k_here; (with_reducible show wpAny _ _ (subscriptTail _ (Expr.Name _ _) (Value.ref _) (Value.int _ _)) _ _ _); k_dflt (refine' Mine.item_fun ?hl ?hk ?hs ?_; (case hl => refine' Mine.Heap.IsList.fr ?ha ?hb; (case hb => k_asm); (case ha => assumption)); (case hk => assumption); (case hs => assumption); k_whole)))
local macro_rules | `(tactic| walk_at "call builtin:list.append") => `(tactic| (k_here; (with_reducible show wpAny _ _ (call (Value.builtin _) [Value.ref _, _]) _ _ _); k_dflt (refine' Mine.append_ma ?k1 ?k2 ?k3 ?z ?_; (case k1 => k_asm); (case k2 => k_asm); (case k3 => assumption); (case z => simp; omega); k_whole); intro h' F' N'; (try k_sweep)))
namespace Mine
theorem fill13 : (Mine.hd.heap_39 = Mine.hd.heap_39 ∧ PySem.Challenge.rw_et5010_01 = PySem.Challenge.rw_et5010_01) := by
  k_fill
  exact ⟨rfl, rfl⟩
section
variable {prog : Program} {w : World} {A A₀ : Around} {E : Value → Shared → Prop} {s : Shared} {base h₀ : Heap} {outer : List Env} {env : Env} {L : Addr} {m : Str → Option Value} {p : Program} {loose : List Str} {mean : ExcName → Option Value} {mg mb : Str → Option Value}
  {Q : Value → Shared → Prop}
theorem linked_c {rl : Addr} {n : Nat} {t : Nat → Addr} {x y : Nat → Int} {tx ty : Nat → Tok}
    (B : Below A₀ base outer h₀) (F : Fr h₀ L s.heap m) (X : (Mine.hd.heap_39 w.params).In h₀) (T : Top p loose mean mg mb h₀)
    (hA : A.frames = some (env :: outer)) (hf : env.frame = some L) (hke : env.scope.kind = .function) (hd : A.depth + 8 < recursionLimit) (hh : A.handled = none)
    (hR : Pts s.heap rl n t x y tx ty) (hn : n ≤ 1000)
    (hQ : ∀ h' tk' S ma e, S.n = n → (∀ j, j < n → S.x j = x j ∧ S.y j = y j) → S.Ok → Fr h₀ L h' m → News h₀ L h' ((ma, listOf ((List.range n).map fun k => Value.ref (S.A k)).toArray e) :: blk w.params S (fun _ => false) (rN n) (rP n)) → Ext s.heap h' →
      s.heap.get? ma = none → (∀ q ∈ blk w.params S (fun _ => false) (rN n) (rP n), s.heap.get? q.1 = none ∧ q.1 ≠ ma) → Q (.ref ma) { s with heap := h', toks := tk' }) :
    wpAny (model prog w) A (call (.ref 175) [.ref rl]) Q E s := by
  have N : News h₀ L s.heap [] := News.nil
  obtain ⟨ah, ad, af, ag, au⟩ := A
  dsimp only at hA hd hh
  subst hA hh
  refine wpAny_call ?_
  refine' code_defG B F X N T rfl hf hke ?k6 ?k7 (by k_room) ?k9 ?kB ?_ ?c2 ?c3 ?c4 ?c5
  (case k6 => k_dflt k_is)
  (case k7 => k_dflt k_is)
  (case k9 => k_dflt (exact BindsTo.of_eq rfl))
  (case c5 => decide)
  (case kB => exact locs rfl)
  (case c2 => exact rfl)
  (case c3 => exact rfl)
  (case c4 => exact rfl)
  intro g L' h₁ FG F' N' B' X' T' G'
  have g0 : ∀ b o, s.heap.get? b = some o → g.get? b = some o := fun b o e => G' b o e (fun h => nomatch h)
  have gR := hR.keeps g0
  have gl := gR.list
  try dsimp only
  try k_fold
  k_steps
  unfold Held
  rename News g L' _ _ => N1
  rename Fr g L' _ _ => F1
  rename IsRange _ _ _ _ _ _ _ _ => hrng
  refine rng_loop (KJ w.params rl _ x y) rfl hrng hn F1 N1 ⟨⟨0, fun _ => 0, fun _ => 0, fun _ _ => 0, fun _ => 0, fun _ => 0, fun _ => 0, fun _ => 0, fun _ => 0, fun _ => 0, fun _ => 0⟩, 0, rfl, rfl, rfl, rfl, rfl, ⟨fun _ _ h => absurd h (Nat.not_lt_zero _), fun _ _ h => absurd h (Nat.not_lt_zero _), fun _ _ h => absurd h (Nat.not_lt_zero _), fun _ h => absurd h (Nat.not_lt_zero _)⟩, fun _ h => absurd h (Nat.not_lt_zero _), fun _ h => nomatch h⟩ ?_ ?_
  · clear F1 N1
    rintro i ti m₁ nx h₂ tk₂ I own hi ⟨S, e, rfl, hm1, hm2, hm3, hSn, hSO, hSxy, hoff⟩ hnx hown ⟨oI, hIo⟩ F₂ N₂
    have em : (fun z => if z = Str.ofString "rows" then some (.ref rl) else if z = Str.ofString "made" then m₁ (Str.ofString "made") else if z = Str.ofString "node" then some (if i = 0 then .none else .ref (S.A (i - 1))) else m₁ z) = m₁ := by
      funext z
      by_cases h1 : z = Str.ofString "rows"
      · rw [if_pos h1, h1, hm1]
      · rw [if_neg h1]
        by_cases h2 : z = Str.ofString "made"
        · rw [if_pos h2, h2]
        · rw [if_neg h2]
          by_cases h3 : z = Str.ofString "node"
          · rw [if_pos h3, h3, hm3]
          · rw [if_neg h3]
    rw [← em, hm2] at F₂
    clear em
    have tup := gR.tup i hi
    have N₃ : News g L' h₂ (_ :: (own ++ blk w.params S (fun _ => false) (rN i) (rP i))) := fun p hp => N₂ p (by
      rcases List.mem_cons.mp hp with rfl | hp
      · exact List.mem_append_right _ (.head _)
      · exact (List.mem_append.mp hp).elim (fun h => List.mem_append_left _ h) fun h => List.mem_append_right _ (.tail _ h))
    clear N₂
    k_steps
    rename News g L' _ (_ :: _ :: _) => N9
    rename _ ∧ AllLt _ _ => l1
    rename @LT.lt Nat _ _ _ => l2
    rename Fr g L' _ _ => F9
    obtain ⟨l1a, l1b⟩ := l1
    have hlt := tb_ltOf l1b
    have hma := (N9 _ (.tail _ (.tail _ (.head _)))).1
    unfold Held
    refine insert_c B' F9 X' T' (news_pre2 N9 (fun q hq => .tail _ (List.mem_append_right _ hq))) rfl rfl rfl (by k_room) hSn rfl hSO (gR.yy i hi) rfl ?_
    intro h' tk' S' hn' hx' hy' hold hO' F10 N10 G10 fa fd
    have N11 := keep_own N9 G10 l1a l2 hlt hown hnx hoff
    have hIh := (N9 _ (.tail _ (.tail _ (.tail _ (List.mem_append_left _ hIo))))).1
    have N12 := news_cat N11 N10
    have hoff1 : Off (blk w.params S' (fun _ => false) (rN (i + 1)) (rP (i + 1))) _ := off_grow hSn hn' (fun j hj => ⟨(hold j hj).1, (hold j hj).2.1⟩) hoff (fun q => by rw [q, hma] at fa; cases fa) (fun q => by rw [q, hma] at fd; cases fd)
    have hoffI : Off (blk w.params S' (fun _ => false) (rN (i + 1)) (rP (i + 1))) I := off_grow hSn hn' (fun j hj => ⟨(hold j hj).1, (hold j hj).2.1⟩) (fun q hq => hnx q (.tail _ hq)) (fun q => by rw [q, hIh] at fa; cases fa) (fun q => by rw [q, hIh] at fd; cases fd)
    have hmaI := hnx _ (.head _)
    have hoff2 : Off (own ++ blk w.params S' (fun _ => false) (rN (i + 1)) (rP (i + 1))) _ := fun q hq => (List.mem_append.mp hq).elim (fun h e => hmaI (e.symm.trans (hown q h))) (hoff1 q)
    clear N9 N10 N11 F9
    k_steps
    rename News g L' _ (_ :: (own ++ _)) => N13
    rw [refs_push (fun j hj => (hold j hj).1)] at N13
    refine TurnG.intro (by assumption) (news_turn N13) (fun p hp => ?_) ⟨S', _, rfl, rfl, rfl, rfl, hn', hO', fun j hj => ?_, hoff1⟩
    · rcases List.mem_cons.mp hp with rfl | hp
      · exact hmaI
      · exact hoffI p hp
    · by_cases h : j = i
      · subst h; exact ⟨hx', hy'⟩
      · have := hold j (by omega)
        exact ⟨this.2.2.1.trans (hSxy j (by omega)).1, this.2.2.2.trans (hSxy j (by omega)).2⟩
  · clear F1 N1
    rintro m₁ nx h₂ tk₂ ⟨S, e, rfl, hm1, hm2, hm3, hSn, hSO, hSxy, hoff⟩ F₂ N₂
    have em : (fun z => if z = Str.ofString "made" then m₁ (Str.ofString "made") else m₁ z) = m₁ := by
      funext z
      by_cases h2 : z = Str.ofString "made"
      · rw [if_pos h2, h2]
      · rw [if_neg h2]
    rw [← em, hm2] at F₂
    clear em
    have hfr : ∀ q ∈ (_ :: blk w.params S (fun _ => false) (rN n) (rP n)), s.heap.get? q.1 = none := fun q hq => by
      have := (N₂ q hq).2.2
      cases e : s.heap.get? q.1 with
      | none => rfl
      | some o => rw [g0 _ _ e] at this; cases this
    dsimp only
    k_steps
    exact hQ _ _ S _ e hSn hSxy hSO (by assumption) (by assumption) (elt_after (InElt.start _) G' N F₂ N₂ (fun _ h => nomatch h)) (hfr _ (.head _)) (fun q hq => ⟨hfr q (.tail _ hq), hoff q hq⟩)
end
end Mine
end
section
set_option maxHeartbeats 1000000
namespace Mine
theorem offT14 : True := by
  w_on
  w_top off
  exact trivial
end Mine
namespace Mine
/-- the value y made of the item v is a new pair -/
def PairAt (h₀ h : Heap) (off : List Addr) (G : Value → Value → Value → Prop) (v y : Value) : Prop := ∃ T a b, y = .ref T ∧ h₀.get? T = none ∧ T ∉ off ∧ IsTup h T #[a, b] ∧ G v a b
theorem PairAt.keep {h₀ h h' : Heap} {off : List Addr} {G : Value → Value → Value → Prop} {v y : Value} (p : PairAt h₀ h off G v y) (k : ∀ b o, b ∉ off → h.get? b = some o → h'.get? b = some o) : PairAt h₀ h' off G v y := by
  obtain ⟨T, a, b, rfl, h1, h2, ⟨o, ho, r⟩, g⟩ := p
  exact ⟨T, a, b, rfl, h1, h2, ⟨o, k _ _ h2 ho, r⟩, g⟩
section
variable {prog : Program} {w : World} {A : Around} {E : Value → Shared → Prop} {s : Shared} {env : Env}
theorem comp_tup {elt iter : Expr} {x : Str} {px : Pos} {scope : Scope} {cl : List (Str × Addr)} {pos : Pos} {Q : Value → Shared → Prop} (G : Value → Value → Value → Prop)
    (hh : A.handled = none) (hclos : closureFor scope env = pure cl) (hcell : ∀ y ∈ scope.names, y.2 ≠ .cell) (hkind : scope.kind = .function)
    (hnames : ∀ y ∈ scope.names, y.2 = .local → scope.names.lookup y.1 = some .local) (hx : scope.names.lookup x = some .local)
    (h : wpAny (model prog w) A (eval iter env) (fun xv s₁ => Held (∃ ax its, xv = .ref ax ∧ s₁.heap.IsList ax its ∧ its.size ≤ 1000 ∧
      (∀ C (i : Nat) v s₂ m₂ E', s₁.heap.objs.size ≤ C → its[i]? = some v → s₂.heap.Ns (compEnvC scope cl C env).locals m₂ → m₂ x = some v → (∀ b o, s₁.heap.get? b = some o → s₂.heap.get? b = some o) →
        wpAny (model prog w) A (eval elt (compEnvC scope cl C env)) (fun y s₃ => (∃ T a b, y = .ref T ∧ s₂.heap.get? T = none ∧ IsTup s₃.heap T #[a, b] ∧ G v a b) ∧ Keeps s₂ s₃) E' s₂) ∧
      (∀ D (ys : Array Value) h' tk, s₁.heap.get? D = none → h'.PlainList D ys → ys.size = its.size → (∀ (j : Nat) v, its[j]? = some v → ∃ y, ys[j]? = some y ∧ PairAt s₁.heap h' [D] G v y) → (∀ b o, s₁.heap.get? b = some o → h'.get? b = some o) → Q (.ref D) { s₁ with heap := h', toks := tk }))) E s)
    (hs : ∀ x, foldedSetIterable iter env x = pure x) :
    wpAny (model prog w) A (eval (.ListComp elt [⟨.Name x px, iter, [], 0⟩] scope pos) env) Q E s := by
  rw [eval_ListComp]
  refine wpAny_comprehension_free (use := none) rfl hs hclos hkind hnames (wpAny_mono h (fun xv s₁ h₁ => ?_) fun _ _ e => e)
  obtain ⟨ax, its, rfl, hl, hsz, helt, hQ⟩ := h₁
  have hlt0 : ax < s₁.heap.objs.size := by obtain ⟨_, e, _⟩ := hl; exact Heap.lt_size e
  refine wpAny_pyIter_list hl ?_
  refine wpAny_newObj_type (wpAny_newFunctionEnv hcell (by intro y hy; simp at hy) (fun h₁ hns₁ hsb₁ => ?_) hkind)
  dsimp only at hns₁ hsb₁ ⊢
  generalize hI : s₁.heap.objs.size = I at *
  generalize hH : s₁.heap.push { cls := .type "list_iterator", data := .fields #[.ref ax, .int 0 0] } = H at *
  have eH : H.objs.size = I + 1 := by rw [← hH, Heap.size_push, hI]
  generalize hH2 : H.push { cls := .type "list", data := .seq ([] : List Value).toArray } = H2 at *
  have eH2 : H2.objs.size = I + 2 := by rw [← hH2, Heap.size_push, eH]
  rw [eH2] at hns₁ hsb₁
  rw [eH, eH2]
  have up0 : ∀ b o, H2.get? b = some o → h₁.get? b = some o := fun b o e => hsb₁.extBut b o (neN (by have h9 := ltN (Heap.lt_size e); omega)) (Heap.get?_push_of_some _ e)
  have up1 : ∀ b o, s₁.heap.get? b = some o → h₁.get? b = some o := fun b o e => up0 b o (by rw [← hH2]; exact Heap.get?_push_of_some _ (by rw [← hH]; exact Heap.get?_push_of_some _ e))
  have fresh : ∀ a, @LE.le Nat _ I a → s₁.heap.get? a = none := fun a ha => by
    cases e : s₁.heap.get? a with
    | none => rfl
    | some o' => have h9 := ltN (Heap.lt_size e); omega
  have W := Walks.list (prog := prog) (w := w) hh I ax (Nat.ne_of_lt hlt0) its
  have hit0 : h₁.IsListIter I ax 0 := by
    have e : H.get? I = some { cls := .type "list_iterator", data := .fields #[.ref ax, .int 0 0] } := by rw [← hH, ← hI]; exact Heap.get?_push_size s₁.heap (o := { cls := .type "list_iterator", data := .fields #[.ref ax, .int 0 0] }) rfl
    have e2 : H2.get? I = some { cls := .type "list_iterator", data := .fields #[.ref ax, .int 0 0] } := by rw [← hH2]; exact Heap.get?_push_of_some _ e
    exact ⟨_, up0 _ _ e2, rfl, rfl⟩
  have hl0 : h₁.IsList ax its := hl.at fun o e => up1 _ o e
  have hD0 : h₁.PlainList (I + 1) #[] := by
    have e : H2.get? (I + 1) = some { cls := .type "list", data := .seq ([] : List Value).toArray } := by rw [← hH2, ← eH]; exact Heap.get?_push_size H (o := { cls := .type "list", data := .seq ([] : List Value).toArray }) rfl
    exact ⟨0, up0 _ _ e⟩
  have loop : codeAny (model prog w) A (.compLoop (.ListComp elt [⟨.Name x px, iter, [], 0⟩] scope pos) 0 (.ref I) (.ref (I + 1)) (compEnvC scope cl (I + 2) env))
      (compPost (model prog w) A E none Q (.ref (I + 1)) (I + 2)) { s₁ with heap := h₁, toks := s₁.toks + ([] : List (Str × Value)).length } := by
    refine codeAny_compLoop_list (fun k s' => ∃ h' tk m' ys i, s' = { s₁ with heap := h', toks := tk } ∧ (h'.IsListIter I ax i ∧ h'.IsList ax its) ∧ h'.PlainList (I + 1) ys ∧ h'.Ns (I + 2) m' ∧ ys.size = i ∧ i ≤ its.size ∧ k = its.size + 1 - i ∧
      (∀ (j : Nat) v, j < i → its[j]? = some v → ∃ y, ys[j]? = some y ∧ PairAt s₁.heap h' [I, I + 1, I + 2] G v y) ∧ (∀ b o, s₁.heap.get? b = some o → h'.get? b = some o)) ?_ (its.size + 1)
      ⟨h₁, _, _, #[], 0, rfl, ⟨hit0, hl0⟩, hD0, hns₁, rfl, Nat.zero_le _, rfl, fun j _ hj => absurd hj (Nat.not_lt_zero _), up1⟩
    rintro k s' ⟨h', tk, m', ys, i, rfl, hst, hD, hns, rfl, hi, rfl, hP, hk⟩
    by_cases hlt : ys.size < its.size
    · refine W.item ys.size _ _ _ hlt hst fun v h₂ tk₂ hv hst₂ hk₂ => ?_
      have hk₂ : ∀ b o, b ≠ I → h'.get? b = some o → h₂.get? b = some o := fun b o hb e => hk₂ b o (by simpa using hb) e
      refine wpAny_assign_Name (wpAny_storeName_local (lookup_relabel_local hx) (hns.at' fun o e => hk₂ _ o (neN (by omega)) e) (fun h₃ hn₃ hs₃ => ?_) (by simp [compEnvC, relabel, hkind]))
      have hk₃ : ∀ b o, b ≠ I + 2 → h₂.get? b = some o → h₃.get? b = some o := fun b o hb e => hs₃.extBut b o hb e
      have hk₄ : ∀ b o, s₁.heap.get? b = some o → h₃.get? b = some o := fun b o e => by
        have hb : @LT.lt Nat _ b I := hI ▸ ltN (Heap.lt_size e)
        exact hk₃ b o (neN (by omega)) (hk₂ b o (neN (by omega)) (hk b o e))
      refine wpAny_mono (helt (I + 2) ys.size v _ _ _ (by omega) hv hn₃ (by simp) hk₄) (fun y s₄ p => ?_) fun _ _ e => e
      obtain ⟨⟨T, a, b, rfl, hT, htup, hG⟩, h₅, tk₅, rfl, hk₅⟩ := p
      have hD₃ : h₃.PlainList (I + 1) ys := hD.at fun o e => hk₃ _ o (neN (by omega)) (hk₂ _ o (neN (by omega)) e)
      have hst₃ : h₃.IsListIter I ax (ys.size + 1) ∧ h₃.IsList ax its := W.frame _ _ _ hst₂ fun b hb o e => hk₃ b o (by
        rcases List.mem_cons.mp hb with rfl | hb
        · exact neN (by omega)
        · rw [List.mem_singleton.mp hb]; have h9 := ltN hlt0; exact neN (by omega)) e
      have hTI : T ≠ I := fun q => by obtain ⟨_, e, _⟩ := hst₃.1; rw [q, e] at hT; cases hT
      have hTD : T ≠ I + 1 := fun q => by obtain ⟨_, e⟩ := hD₃; rw [q, e] at hT; cases hT
      have hTC : T ≠ I + 2 := fun q => by obtain ⟨_, _, _, e, _⟩ := hn₃; rw [q] at hT; exact absurd (hT.symm.trans e) (by simp)
      have hTs : s₁.heap.get? T = none := by
        cases e : s₁.heap.get? T with
        | none => rfl
        | some o => rw [hk₄ _ _ e] at hT; cases hT
      refine wpAny_list_append_plain (hD₃.at fun o e => hk₅ _ o e) (fun h₆ hD₆ hs₆ => ?_) (by rw [sizeLine_eq]; omega)
      have hk₆ : ∀ b o, b ≠ I + 1 → h₅.get? b = some o → h₆.get? b = some o := fun b o hb e => hs₆.extBut b o hb e
      refine ⟨its.size + 1 - (ys.size + 1), by omega, h₆, tk₅, _, ys.push (.ref T), ys.size + 1, rfl, ?_, hD₆, (hn₃.keeps hk₅).at' fun o e => hk₆ _ o (neN (show (I + 2 : Nat) ≠ I + 1 by omega)) e, by simp, hlt, rfl, ?_, fun b o e => ?_⟩
      · exact W.frame _ _ _ hst₃ fun b hb o e => hk₆ b o (by
          rcases List.mem_cons.mp hb with rfl | hb
          · exact neN (by omega)
          · rw [List.mem_singleton.mp hb]; have h9 := ltN hlt0; exact neN (by omega)) (hk₅ b o e)
      · intro j u hj hu
        by_cases hj2 : j = ys.size
        · subst hj2
          have : u = v := by rw [hv] at hu; exact (Option.some.inj hu).symm
          subst this
          refine ⟨.ref T, by simp, T, a, b, rfl, hTs, by simp; exact ⟨hTI, hTD, hTC⟩, ?_, hG⟩
          obtain ⟨o, ho, r⟩ := htup
          exact ⟨o, hk₆ _ _ hTD ho, r⟩
        · obtain ⟨y, hy, p⟩ := hP j u (by omega) hu
          refine ⟨y, ?_, p.keep fun b o hb e => ?_⟩
          · rw [Array.getElem?_push_lt (by omega)]
            rw [Array.getElem?_eq_getElem (by omega)] at hy
            exact hy
          · simp only [List.mem_cons, List.not_mem_nil, or_false, not_or] at hb
            exact hk₆ b o hb.2.1 (hk₅ b o (hk₃ b o hb.2.2 (hk₂ b o hb.1 e)))
      · have hb : @LT.lt Nat _ b I := hI ▸ ltN (Heap.lt_size e)
        exact hk₆ b o (neN (by omega)) (hk₅ b o (hk₄ b o e))
    · have hin : ys.size = its.size := by omega
      refine W.done _ _ _ (hin ▸ hst) fun h₂ tk₂ hk₂ => ?_
      have hk₂ : ∀ b o, b ≠ I → h'.get? b = some o → h₂.get? b = some o := fun b o hb e => hk₂ b o (by simpa using hb) e
      refine ⟨m', hns.at' fun o e => hk₂ _ o (neN (by omega)) e, fun h₃ hs₃ => ?_⟩
      have hk₃ : ∀ b o, b ≠ I + 2 → h₂.get? b = some o → h₃.get? b = some o := fun b o hb e => hs₃.extBut b o hb e
      refine hQ (I + 1) ys h₃ tk₂ (fresh _ (by omega)) (hD.at fun o e => hk₃ _ o (neN (by omega)) (hk₂ _ o (neN (by omega)) e)) hin (fun j v hv => ?_) (fun b o e => ?_)
      · have hj : j < its.size := by
          rcases Nat.lt_or_ge j its.size with h | h
          · exact h
          · rw [Array.getElem?_eq_none h] at hv; cases hv
        obtain ⟨y, hy, T, a, b, rfl, q1, q2, ⟨o, ho, r⟩, hG⟩ := hP j v (by omega) hv
        simp only [List.mem_cons, List.not_mem_nil, or_false, not_or] at q2
        exact ⟨_, hy, T, a, b, rfl, q1, by simp; exact q2.2.1, ⟨o, hk₃ _ _ q2.2.2 (hk₂ _ _ q2.1 ho), r⟩, hG⟩
      · have hb : @LT.lt Nat _ b I := hI ▸ ltN (Heap.lt_size e)
        exact hk₃ b o (neN (by omega)) (hk₂ b o (neN (by omega)) (hk b o e))
  exact codeAny_compStart_list loop (W.self 0 _ _ _ ⟨hit0, hl0⟩ loop)
end
end Mine
end
section
set_option maxHeartbeats 1000000
namespace Mine
theorem offT15 : True := by
  w_on
  w_top off
  exact trivial
end Mine
namespace Mine
section
variable {prog : Program} {w : World} {A : Around} {E : Value → Shared → Prop} {s : Shared} {value slice : Expr} {a b : Addr} {vs ws : List Value} {ns : List Int} {u : Tok} {Q : Value → Shared → Prop} {h₀ : Heap} {L : Addr} {m : Str → Option Value} {news : List (Addr × Obj)}
theorem IntsAre.at {vs : List Value} {ns : List Int} (h : IntsAre vs ns) : ∀ {j : Nat}, j < ns.length → ∃ t, vs[j]? = some (.int (ns.getD j 0) t) := by
  induction h with
  | nil => intro j hj; exact absurd hj (Nat.not_lt_zero _)
  | cons k t _ ih =>
    intro j hj
    match j with
    | 0 => exact ⟨t, rfl⟩
    | j + 1 => obtain ⟨t', e⟩ := ih (j := j) (Nat.lt_of_succ_lt_succ hj); exact ⟨t', e⟩
theorem ints_drop {vs : List Value} {ns : List Int} (h : IntsAre vs ns) : ∀ {j : Nat}, IntsAre (vs.drop j) (ns.drop j) := by
  induction h with
  | nil => intro j; simp; exact .nil
  | cons k t h ih =>
    intro j
    match j with
    | 0 => exact .cons k t h
    | j + 1 => exact ih
theorem ints_take {vs : List Value} {ns : List Int} (h : IntsAre vs ns) : ∀ {j : Nat}, IntsAre (vs.take j) (ns.take j) := by
  induction h with
  | nil => intro j; simp; exact .nil
  | cons k t h ih =>
    intro j
    match j with
    | 0 => exact .nil
    | j + 1 => exact .cons k t ih
theorem ints_len {vs : List Value} {ns : List Int} (h : IntsAre vs ns) : vs.length = ns.length := by
  induction h with
  | nil => rfl
  | cons k t _ ih => simp [ih]
theorem item_int {k : Int} {j : Nat} (hl : s.heap.IsList a vs.toArray) (hv : IntsAre vs ns) (hk : k = (j : Int)) (hj : j < ns.length) (hsz : ns.length ≤ 1000) (h : ∀ t, Q (.int (ns.getD j 0) t) s)
    (hs : subscripted slice false (.ref a) (.int k u) = operate [.ref a, .int k u] (getItem (.ref a) (.int k u)) := by with_unfolding_all rfl) :
    wpAny (model prog w) A (subscriptTail value slice (.ref a) (.int k u)) Q E s := by
  subst hk
  obtain ⟨t, e⟩ := IntsAre.at hv hj
  exact tail_any hl.typeIs slot_list_getitem.lookup (wpAny_getItem_list hl (by omega) (by omega) (by simpa using e) (h t)) hs
theorem slice_picks {vl vu : Value} {c : Int} {r : Nat} (F : Fr h₀ L s.heap m) (N : News h₀ L s.heap news) (hm : (a, lst vs) ∈ news) (hv : IntsAre vs ns) (hsz : ns.length ≤ 1000) (pl : IsPart vl (some 1)) (pu : IsPart vu (some c)) (hc : c = ((1 + r : Nat) : Int)) (hr : 1 + r ≤ ns.length)
    (h : ∀ h' b vs', Fr h₀ L h' m → News h₀ L h' ((b, lst vs') :: news) → IntsAre vs' ((ns.drop 1).take r) → vs'.length = r → Q (.ref b) { s with heap := h' })
    (hs : subscripted slice false (.ref a) (.ref s.heap.objs.size) = operate [.ref s.heap.objs.size, .ref a] (getItem (.ref a) (.ref s.heap.objs.size)) := by with_unfolding_all rfl)
    (ht : ∀ r, letTemporaryGo value (.ref a) r = pure () := by intro _; with_unfolding_all rfl) :
    wpAny (model prog w) A (subscriptTail value slice (.ref a) (.ref s.heap.objs.size)) Q E { s with heap := s.heap.push { cls := .type "slice", data := .fields #[vl, vu, .none] } } := by
  have hz := ints_len hv
  refine slice_list F N (News.isList N hm) pl pu (fun h' F' N' => ?_) hs ht (by rw [List.size_toArray, hz, sizeLine_eq]; omega)
  subst hc
  have e := slicePick_run vs.toArray 1 (1 + r) (by rw [List.size_toArray, hz]; exact hr) (by omega)
  rw [show ((1 : Nat) : Int) = 1 from rfl] at e
  rw [e] at N'
  have e2 : 1 + r - 1 = r := by omega
  rw [e2] at N'
  exact h h' _ _ F' N' (ints_take (ints_drop hv)) (by simp; omega)
end
theorem pick_len {m : Int} : ∃ r : Nat, (2 : Int) + Int.fmod m 9 = ((1 + r : Nat) : Int) ∧ 1 ≤ r ∧ r ≤ 9 := by
  have h1 : 0 ≤ Int.fmod m 9 := Int.fmod_nonneg_of_pos _ (by decide)
  have h2 : Int.fmod m 9 < 9 := Int.fmod_lt_of_pos _ (by decide)
  exact ⟨(1 + Int.fmod m 9).toNat, by omega, by omega, by omega⟩
section
variable {prog : Program} {w : World} {A : Around} {E : Value → Shared → Prop} {s : Shared} {h₀ : Heap} {L : Addr} {m : Str → Option Value} {env : Env}
theorem comp_lst {elt iter : Expr} {x : Str} {px : Pos} {ifs : List Expr} {scope : Scope} {cl : List (Str × Addr)} {pos : Pos} {Q : Value → Shared → Prop} (pz : Int → Bool) (d : Int → PyData) (F : Fr h₀ L s.heap m)
    (hh : A.handled = none) (hclos : closureFor scope env = pure cl) (hcell : ∀ y ∈ scope.names, y.2 ≠ .cell) (hkind : scope.kind = .function)
    (hnames : ∀ y ∈ scope.names, y.2 = .local → scope.names.lookup y.1 = some .local) (hx : scope.names.lookup x = some .local)
    (h : wpAny (model prog w) A (eval iter env) (fun xv s₁ => Held (∃ news : List (Addr × Obj), ∃ ax vs as, xv = .ref ax ∧ s₁.heap.IsList ax vs.toArray ∧ AreOf .int vs as ∧ as.length ≤ sizeLine ∧ Fr h₀ L s₁.heap m ∧ News h₀ L s₁.heap news ∧
      (∀ C a v s₂ m₂ E', s₁.heap.objs.size ≤ C → a ∈ as → ItemKind.int.is a v → s₂.heap.Ns (compEnvC scope cl C env).locals m₂ → m₂ x = some v → (∀ b o, s₁.heap.get? b = some o → s₂.heap.get? b = some o) →
        wpAny (model prog w) A (forIn ifs true fun c r => if r = true then do let ok ← isTrue c (compEnvC scope cl C env) (eval c (compEnvC scope cl C env)); pure (ForInStep.yield ok) else pure (ForInStep.yield r))
          (fun ok s₃ => ok = pz a ∧ Keeps s₂ s₃) E' s₂) ∧
      (∀ C a v s₂ m₂ E', s₁.heap.objs.size ≤ C → a ∈ as → ItemKind.int.is a v → pz a = true → s₂.heap.Ns (compEnvC scope cl C env).locals m₂ → m₂ x = some v → (∀ b o, s₁.heap.get? b = some o → s₂.heap.get? b = some o) →
        wpAny (model prog w) A (eval elt (compEnvC scope cl C env)) (fun y s₃ => Carried y (d a) ∧ Keeps s₂ s₃) E' s₂) ∧
      (∀ D (ys : List Value) h' tk, Fr h₀ L h' m → News h₀ L h' news → h₀.get? D = none → h'.IsList D ys.toArray → NewPlain h' news D ys.toArray → CarriedAll ys ((as.filter pz).map d) → Q (.ref D) { s₁ with heap := h', toks := tk }))) E s)
    (hs : ∀ x, foldedSetIterable iter env x = pure x) :
    wpAny (model prog w) A (eval (.ListComp elt [⟨.Name x px, iter, ifs, 0⟩] scope pos) env) Q E s :=
  ListComp_DCn (K := .int) (h₀ := h₀) (L := L) (m := m) (pz := pz) (d := d) hh hclos hcell hkind hnames hx h hs
end
/-- the points of a ring in the ledger -/
structure PtsOk (ro : Obj) (to : Nat → Obj) (n : Nat) (t : Nat → Addr) (x y : Nat → Int) (tx ty : Nat → Tok) : Prop where
  rc : ro.cls = .type "list"
  rd : ∃ e, ro.data = .seq ((List.range n).map fun k => Value.ref (t k)).toArray e
  tc : ∀ k, k < n → (to k).cls = .type "tuple"
  td : ∀ k, k < n → ∃ e, (to k).data = .seq [.int (x k) (tx k), .int (y k) (ty k)].toArray e
  yy : ∀ k, k < n → 0 ≤ y k ∧ y k ≤ 2
def ptsL (rl : Addr) (ro : Obj) (n : Nat) (t : Nat → Addr) (to : Nat → Obj) : List (Addr × Obj) := (rl, ro) :: (List.range n).map fun k => (t k, to k)
theorem PtsOk.pts {h₀ h : Heap} {L rl : Addr} {ro : Obj} {to : Nat → Obj} {n : Nat} {t : Nat → Addr} {x y : Nat → Int} {tx ty : Nat → Tok} (O : PtsOk ro to n t x y tx ty) (N : News h₀ L h (ptsL rl ro n t to)) : Pts h rl n t x y tx ty :=
  ⟨⟨ro, (N _ (.head _)).1, O.rc, O.rd⟩, fun k hk => ⟨to k, (N _ (.tail _ (List.mem_map.mpr ⟨k, List.mem_range.mpr hk, rfl⟩))).1, O.tc k hk, O.td k hk⟩, O.yy⟩
def PG (v a b : Value) : Prop := ∃ X tX Y tY, a = .int X tX ∧ b = .int Y tY ∧ 0 ≤ Y ∧ Y ≤ 2
theorem pts_of {h₀ h h' : Heap} {L D : Addr} {m : Str → Option Value} {ys its : Array Value} {n : Nat} (F : Fr h₀ L h m) (hn : its.size = n) (hD : h.get? D = none) (pl : h'.PlainList D ys) (hsz : ys.size = its.size)
    (hP : ∀ (j : Nat) v, its[j]? = some v → ∃ y, ys[j]? = some y ∧ PairAt h h' [D] PG v y) :
    ∃ ro t to x y tx ty, PtsOk ro to n t x y tx ty ∧ News h₀ L h' (ptsL D ro n t to) ∧ ∀ q ∈ ptsL D ro n t to, h.get? q.1 = none := by
  have ne : ∀ a, h.get? a = none → a ≠ L ∧ h₀.get? a = none := fun a ha => by
    refine ⟨fun e => ?_, ?_⟩
    · obtain ⟨_, _, _, q, _⟩ := F.ns
      rw [e, q] at ha; cases ha
    · cases e : h₀.get? a with
      | none => rfl
      | some o => rw [F.keep _ _ e] at ha; cases ha
  have hall : ∀ j : Nat, ∃ d : Addr × Obj × Int × Tok × Int × Tok, j < n → ys[j]? = some (.ref d.1) ∧ h.get? d.1 = none ∧ h'.get? d.1 = some d.2.1 ∧ d.2.1.cls = .type "tuple" ∧ (∃ e, d.2.1.data = .seq [.int d.2.2.1 d.2.2.2.1, .int d.2.2.2.2.1 d.2.2.2.2.2].toArray e) ∧ 0 ≤ d.2.2.2.2.1 ∧ d.2.2.2.2.1 ≤ 2 := fun j => by
    by_cases hj : j < n
    · obtain ⟨y, hy, T, a, b, rfl, q1, _, ⟨o, ho, hc, e, hd⟩, X, tX, Y, tY, rfl, rfl, hY⟩ := hP j its[j] (Array.getElem?_eq_getElem (by omega))
      exact ⟨(T, o, X, tX, Y, tY), fun _ => ⟨hy, q1, ho, hc, ⟨e, hd⟩, hY⟩⟩
    · exact ⟨default, fun h => absurd h hj⟩
  obtain ⟨f, hf⟩ := Classical.skolem.mp hall
  obtain ⟨e, he⟩ := pl
  have hys : ys = ((List.range n).map fun k => Value.ref (f k).1).toArray := by
    apply Array.ext
    · simp; omega
    · intro i h1 h2
      have hi : i < n := by omega
      have := (hf i hi).1
      rw [Array.getElem?_eq_getElem h1] at this
      simp; exact Option.some.inj this
  refine ⟨{ cls := .type "list", data := .seq ys e }, fun k => (f k).1, fun k => (f k).2.1, fun k => (f k).2.2.1, fun k => (f k).2.2.2.2.1, fun k => (f k).2.2.2.1, fun k => (f k).2.2.2.2.2, ⟨rfl, ⟨e, ?_⟩, fun k hk => (hf k hk).2.2.2.1, fun k hk => (hf k hk).2.2.2.2.1, fun k hk => (hf k hk).2.2.2.2.2⟩, fun q hq => ?_, fun q hq => ?_⟩
  · rw [← hys]
  · rcases List.mem_cons.mp hq with rfl | hq
    · exact ⟨he, ne _ hD⟩
    · obtain ⟨k, hk, rfl⟩ := List.mem_map.mp hq
      have hk := List.mem_range.mp hk
      exact ⟨(hf k hk).2.2.1, ne _ (hf k hk).2.1⟩
  · rcases List.mem_cons.mp hq with rfl | hq
    · exact hD
    · obtain ⟨k, hk, rfl⟩ := List.mem_map.mp hq
      exact (hf k (List.mem_range.mp hk)).2.1
theorem newTup {M : Model} {A : Around} {E : Value → Shared → Prop} {s : Shared} {vs : List Value} {Q : Value → Shared → Prop} (h : Q (.ref s.heap.objs.size) { s with heap := s.heap.push { cls := .type "tuple", data := .seq vs.toArray } }) (hsz : vs.length ≤ 1000) : wpAny M A (newTuple vs) Q E s :=
  wpAny_newObj_type h (by show vs.toArray.size ≤ sizeLine; rw [List.size_toArray, sizeLine_eq]; omega)
theorem get_size (h : Heap) : h.get? h.objs.size = none := by
  cases e : h.get? h.objs.size with
  | none => rfl
  | some o => exact absurd (Heap.lt_size e) (Nat.lt_irrefl _)
theorem ints_get {vs : List Value} {ns : List Int} (h : IntsAre vs ns) {i : Nat} {v : Value} (hv : vs[i]? = some v) : ∃ a t, v = .int a t := by
  induction h generalizing i with
  | nil => simp at hv
  | cons k t _ ih =>
    match i with
    | 0 => exact ⟨k, t, (Option.some.inj hv).symm⟩
    | i + 1 => exact ih hv
theorem news_app {h₀ h : Heap} {L : Addr} {l l' : List (Addr × Obj)} (N : News h₀ L h l) (N' : News h₀ L h l') : News h₀ L h (l ++ l') := fun p hp => (List.mem_append.mp hp).elim (N p) (N' p)
theorem mkBool_all {ys : List Value} : ∀ {ns : List Int} {f : Int → Bool}, CarriedAll ys (ns.map fun a => .bool (f a)) → ys = ns.map fun a => .bool (f a) := by
  intro ns
  induction ns generalizing ys with
  | nil => intro f h; cases h; rfl
  | cons a ns ih =>
    intro f h
    cases h with
    | cons h1 h2 => cases h1; rw [List.map_cons, ih h2]
theorem map_getD_range {α β : Type} (g : α → β) (l : List α) (d : α) {r : Nat} (hr : l.length = r) : l.map g = (List.range r).map fun k => g (l.getD k d) := by
  subst hr
  apply List.ext_getElem
  · simp
  · intro i h1 h2
    have h3 : i < l.length := by simpa using h1
    simp [List.getD_eq_getElem?_getD, h3]
theorem getD_map_range {α : Type} (l : List α) (d : α) : (List.range l.length).map (fun k => l.getD k d) = l := by
  apply List.ext_getElem
  · simp
  · intro i h1 h2
    simp [List.getD_eq_getElem?_getD, h2]
end Mine
end
section
set_option maxHeartbeats 1000000
local macro_rules | `(tactic| walk_at "no such key 0") => `(tactic| fail "none")
namespace Mine
theorem offT16 : True := by
  w_on
  w_top off
  exact trivial
end Mine
local macro_rules | `(tactic| ktr_unf) => `(tactic| first | with_reducible assumption | (refine List.mem_cons_of_mem _ ?_; ktr_unf))
local macro_rules | `(tactic| k_room) => `(tactic| ((try simp only [depth_under_make, depth_under_kw, depth_in1, depth_deeper, depth_caller]); (try dsimp only); omega))
local macro_rules | `(tactic| walk_at "eval ListComp") => `(tactic| refine Mine.held ?_)
local macro_rules | `(tactic| walk_at "newTuple") => `(tactic| refine Mine.held ?_)
local macro_rules | `(tactic| walk_at "subscriptTail") => `(tactic| (k_here; (with_reducible show wpAny _ _ (subscriptTail _ (Expr.Constant _ _ _) (Value.ref _) (Value.int _ _)) _ _ _); k_dflt (refine' Mine.item_int (j := 0) ?hl ?hv ?hk ?hj ?hs ?_; (case hl => exact News.isList (by k_asm) (by ktr_unf)); (case hv => assumption); (case hk => exact rfl); (case hj => omega); (case hs => assumption); k_whole; intro t')))
local macro_rules | `(tactic| walk_at "subscriptTail Name Slice ref ref") => `(tactic| (k_here; (with_reducible show wpAny _ _ (subscriptTail _ (Expr.Slice _ _ _ _) (Value.ref _) (Value.ref _)) _ _ _); k_dflt (refine' Mine.slice_picks ?F ?N ?hm ?hv ?hs ?pl ?pu ?e ?hr ?_; (case F => k_asm); (case N => k_asm); (case hm => ktr_unf); (case hv => assumption); (case hs => assumption); (case pl => exact .int _ _); (case pu => exact .int _ _); (case e => assumption); (case hr => omega); k_whole; intro h' b' vs' F' N' v' l'; (try k_sweep))))
local macro_rules | `(tactic| walk_at "eval Name") => `(tactic| (k_here; k_inBlock; k_dflt (refine' Mine.cname_c ?N ?c ?m ?o ?_ ?a ?b ?d; (case a => rfl); (case b => rfl); (case d => decide); (case N => k_asm); (case c => rfl); (case m => ktr_unf); (case o => assumption); k_whole)))
local macro_rules | `(tactic| walk_at "eval Name") => `(tactic| (k_here; k_inBlock; k_dflt (refine' Mine.cname_l ?n ?m ?_ ?a ?b ?d; (case a => rfl); (case b => rfl); (case d => decide); (case n => assumption); (case m => assumption); k_whole)))
namespace Mine
theorem fill16 : (Mine.hd.heap_39 = Mine.hd.heap_39 ∧ PySem.Challenge.rw_et5010_01 = PySem.Challenge.rw_et5010_01) := by
  k_fill
  exact ⟨rfl, rfl⟩
section
variable {prog : Program} {w : World} {A A₀ : Around} {E : Value → Shared → Prop} {s : Shared} {base h₀ : Heap} {outer : List Env} {env : Env} {L : Addr} {m : Str → Option Value} {p : Program} {loose : List Str} {mean : ExcName → Option Value} {mg mb : Str → Option Value}
  {Q : Value → Shared → Prop} {news : List (Addr × Obj)}
theorem draw_c {nl : Addr} {vs : List Value} {ns : List Int}
    (B : Below A₀ base outer h₀) (F : Fr h₀ L s.heap m) (X : (Mine.hd.heap_39 w.params).In h₀) (T : Top p loose mean mg mb h₀) (N : News h₀ L s.heap news)
    (hA : A.frames = some (env :: outer)) (hf : env.frame = some L) (hke : env.scope.kind = .function) (hd : A.depth + 8 < recursionLimit) (hh : A.handled = none)
    (hnl : (nl, lst vs) ∈ news) (hi : IntsAre vs ns) (h13 : 13 ≤ ns.length) (hlen : ns.length ≤ 1000)
    (hQ : ∀ h' tk tp rl ml ro t to x y tx ty (mk : Nat → Bool) n em, PtsOk ro to n t x y tx ty → 1 ≤ n → n ≤ 9 → Fr h₀ L h' m →
      News h₀ L h' ((tp, { cls := .type "tuple", data := .seq [.ref rl, .ref ml].toArray }) :: (ml, listOf ((List.range n).map fun k => Value.bool (mk k)).toArray em) :: (ptsL rl ro n t to ++ news)) → (∀ c, c ∈ news.map (·.1) → tp ≠ c ∧ Off ((ml, listOf ((List.range n).map fun k => Value.bool (mk k)).toArray em) :: ptsL rl ro n t to) c) → Q (.ref tp) { s with heap := h', toks := tk }) :
    wpAny (model prog w) A (call (.ref 180) [.ref nl]) Q E s := by
  obtain ⟨ah, ad, af, ag, au⟩ := A
  dsimp only at hA hd hh
  subst hA hh
  refine wpAny_call ?_
  refine' code_defC B F X N T rfl hf hke ?k6 ?k7 (by k_room) ?k9 ?kB ?kD ?_ ?c2 ?c3 ?c4
  (case k6 => k_dflt k_is)
  (case k7 => k_dflt k_is)
  (case k9 => k_dflt (exact BindsTo.of_eq rfl))
  (case kB => exact rfl)
  (case kD => decide +kernel)
  (case c2 => exact rfl)
  (case c3 => exact rfl)
  (case c4 => exact rfl)
  intro g L' h₁ tk' cells' FG F' N' Y' B' X' T' l1
  k_cells Y'
  (try simp only [List.cons_append, List.nil_append] at N')
  have l2 : ∀ p ∈ news, p.1 < L' + 1 := fun p hp => Nat.lt_succ_of_lt (l1 p hp)
  obtain ⟨r, hr, hr1, hr9⟩ := pick_len (m := ns.getD 0 0)
  try dsimp only
  try k_fold
  k_steps
  unfold Held
  refine' comp_tup PG rfl ?hclos ?hcell ?hkind ?hnames ?hx ?h ?hs
  (case hclos => with_unfolding_all rfl)
  (case hcell => decide)
  (case hkind => with_unfolding_all rfl)
  (case hnames => decide)
  (case hx => with_unfolding_all rfl)
  (case hs => intro _; with_unfolding_all rfl)
  k_steps
  rename Fr g L' _ _ => F9
  rename News g L' _ _ => N9
  rename IntsAre _ (List.take _ _) => hi2
  rename List.length _ = r => hl2
  unfold Held
  refine ⟨_, _, rfl, News.isList N9 (.head _), (by rw [List.size_toArray, hl2]; omega), ?_, ?_⟩
  · intro C i v s₂ m₂ E' hC hv hNs hm2 keep
    obtain ⟨one, to', rfl⟩ := ints_get hi2 (by simpa using hv)
    have F10 := F9.keeps keep
    have N10 := N9.grown keep
    have b1 : 0 ≤ Int.fmod (Int.fdiv one 3) 3 := Int.fmod_nonneg_of_pos _ (by decide)
    have b2 : Int.fmod (Int.fdiv one 3) 3 < 3 := Int.fmod_lt_of_pos _ (by decide)
    clear F9 N9 hQ
    k_steps
    unfold Held
    refine newTup ?_ (by simp)
    exact ⟨⟨_, _, _, rfl, get_size _, IsTup.new _ _, ⟨_, _, _, _, rfl, rfl, b1, by omega⟩⟩, ⟨_, _, rfl, fun b o e => Heap.get?_push_of_some _ e⟩⟩
  · intro D ys h' tk hD hpl hsz hP keep
    obtain ⟨ro, t, to, x, y, tx, ty, O, NP, fP⟩ := pts_of F9 (n := r) (by rw [List.size_toArray, hl2]) hD hpl hsz hP
    have F10 := F9.keeps keep
    have N10 := news_app (N9.grown keep) NP
    have off1 : ∀ c, c ∈ news.map (·.1) → Off (ptsL D ro r t to) c := fun c hc q hq e => by
      obtain ⟨p9, hp9, rfl⟩ := List.mem_map.mp hc
      have h9 := fP q hq
      rw [e, (N9 p9 (.tail _ (.tail _ hp9))).1] at h9
      cases h9
    clear F9 N9 NP
    k_steps
    unfold Held
    refine' comp_lst (fun _ => true) (fun a => PyData.bool (Int.fmod a 4 == 0)) F10 ?hh ?hclos ?hcell ?hkind ?hnames ?hx ?h ?hs
    (case hh => rfl)
    (case hclos => with_unfolding_all rfl)
    (case hcell => decide)
    (case hkind => with_unfolding_all rfl)
    (case hnames => decide)
    (case hx => with_unfolding_all rfl)
    (case hs => intro _; with_unfolding_all rfl)
    k_steps
    unfold Held
    refine ⟨_, _, _, _, rfl, News.isList N10 (.head _), IntsAre.areOf hi2, (by rw [← ints_len hi2, hl2, sizeLine_eq]; omega), F10, N10, ?_, ?_, ?_⟩
    · intro C a v s₂ m₂ E' hC ha hva hNs hm2 keep2
      have F11 := F10.keeps keep2
      have N11 := N10.grown keep2
      clear F10 N10 hQ
      k_steps
      exact ⟨_, _, rfl, fun _ _ h => h⟩
    · intro C a v s₂ m₂ E' hC ha hva hp hNs hm2 keep2
      obtain ⟨ta, rfl⟩ := hva
      have F11 := F10.keeps keep2
      have N11 := N10.grown keep2
      clear F10 N10 hQ
      k_steps
      · exact .bool _
      · exact ⟨_, _, rfl, fun _ _ h => h⟩
    · intro D2 zs h2 tk2 F11 N11 hD2 hl hpl2 hcar
      obtain ⟨e2, N12⟩ := news_add F11 N11 hD2 hpl2
      clear N10 F10 N11
      rw [List.filter_eq_self.mpr (fun _ _ => rfl)] at hcar
      have hz := mkBool_all hcar
      rw [map_getD_range _ _ 0 ((ints_len hi2).symm.trans hl2)] at hz
      subst hz
      k_steps
      unfold Held
      have lt12 : ∀ p9 ∈ news, p9.1 ≠ h2.objs.size := fun p9 hp9 => Nat.ne_of_lt (Heap.lt_size (N12 p9 (.tail _ (List.mem_append_left _ (.tail _ (.tail _ hp9))))).1)
      refine newTuple_N F11 N12 (fun h5 F5 N5 => ?_) (by rw [sizeLine_eq]; simp)
      clear N12 F11
      k_steps
      rename News h₀ L _ (_ :: _) => N6
      rename Fr h₀ L _ m => F6
      refine hQ _ _ _ D D2 ro t to x y tx ty (fun k => Int.fmod (((ns.drop 1).take r).getD k 0) 4 == 0) r e2 O hr1 hr9 F6 (fun p hp => N6 p ?_) (fun c hc => ⟨fun e => ?_, fun q hq e => ?_⟩)
      · rcases List.mem_cons.mp hp with rfl | hp
        · exact .head _
        · rcases List.mem_cons.mp hp with rfl | hp
          · exact .tail _ (.head _)
          · refine .tail _ (.tail _ ?_)
            rcases List.mem_append.mp hp with hp | hp
            · exact List.mem_append_right _ hp
            · exact List.mem_append_left _ (.tail _ (.tail _ hp))
      · obtain ⟨p9, hp9, rfl⟩ := List.mem_map.mp hc
        exact lt12 p9 hp9 e.symm
      · rcases List.mem_cons.mp hq with rfl | hq
        · obtain ⟨p9, hp9, rfl⟩ := List.mem_map.mp hc
          exact hpl2.2 p9 (List.mem_append_left _ (.tail _ (.tail _ hp9))) e.symm
        · exact off1 c hc q hq e
end
end Mine
end
section
set_option maxHeartbeats 1000000
namespace Mine
theorem offT17 : True := by
  w_on
  w_top off
  exact trivial
end Mine
namespace Mine
theorem ints_app {vs ws : List Value} {l k : List Int} (h : IntsAre vs l) (h' : IntsAre ws k) : IntsAre (vs ++ ws) (l ++ k) := by
  induction h with
  | nil => exact h'
  | cons k t _ ih => exact .cons k t ih
theorem add_more {prog : Program} {w : World} {A : Around} {E : Value → Shared → Prop} {s : Shared} {a : Addr} {vs ws : List Value} {ns ms : List Int} {h₀ : Heap} {L : Addr} {m : Str → Option Value} {news : List (Addr × Obj)} {K : Frag} {dd : Option Addr} {sl : Array (Option Value)} {n : Nat} {Q : Value → Shared → Prop}
    (F : Fr h₀ L s.heap m) (X₀ : K.In h₀) (N : News h₀ L s.heap news) (ha : s.heap.IsList a vs.toArray) (hi : IntsAre vs ns) (hl : K.lookup 149 = some ⟨.type "list", dd, .seq ws.toArray n, sl⟩) (hj : IntsAre ws ms) (hz : ns.length ≤ 63) (hm : ms.length = 13)
    (h : ∀ h' c vs', Fr h₀ L h' m → News h₀ L h' ((c, lst vs') :: news) → IntsAre vs' (ns ++ ms) → 13 ≤ (ns ++ ms).length → (ns ++ ms).length ≤ 1000 → Off news c → Q (.ref c) { s with heap := h' }) :
    wpAny (model prog w) A (binaryOp .Add (.ref a) (.ref 149)) Q E s := by
  have e1 := ints_len hi
  have e2 := ints_len hj
  refine add_lists F N ha (lstK (X₀.keeps F.keep) hl) (fun h' F' N' => h h' _ _ F' N' (ints_app hi hj) ?_ ?_ (fun p hp => Nat.ne_of_lt (Heap.lt_size (N p hp).1))) ?_
  · rw [List.length_append]; omega
  · rw [List.length_append]; omega
  · rw [sizeLine_eq]; omega
structure Offs (rest : List (Addr × Obj)) (c1 c2 c3 : Addr) : Prop where
  o1 : Off rest c1
  o2 : Off rest c2
  o3 : Off rest c3
  n12 : c1 ≠ c2
  n13 : c1 ≠ c3
  n23 : c2 ≠ c3
theorem uf1 {rest : List (Addr × Obj)} {c1 c2 c3 : Addr} {o1 o2 o3 : Obj} (h : Offs rest c1 c2 c3) : UpdF c1 o1 ((c3, o3) :: (c2, o2) :: (c1, o1) :: rest) (fun o' => (c3, o3) :: (c2, o2) :: (c1, o') :: rest) := .tail h.n13.symm (.tail h.n12.symm (.head h.o1))
theorem uf2 {rest : List (Addr × Obj)} {c1 c2 c3 : Addr} {o1 o2 o3 : Obj} (h : Offs rest c1 c2 c3) : UpdF c2 o2 ((c3, o3) :: (c2, o2) :: (c1, o1) :: rest) (fun o' => (c3, o3) :: (c2, o') :: (c1, o1) :: rest) := .tail h.n23.symm (.head fun p hp => by
  rcases List.mem_cons.mp hp with rfl | hp
  · exact h.n12
  · exact h.o2 p hp)
theorem uf3 {rest : List (Addr × Obj)} {c1 c2 c3 : Addr} {o1 o2 o3 : Obj} (h : Offs rest c1 c2 c3) : UpdF c3 o3 ((c3, o3) :: (c2, o2) :: (c1, o1) :: rest) (fun o' => (c3, o') :: (c2, o2) :: (c1, o1) :: rest) := .head fun p hp => by
  rcases List.mem_cons.mp hp with rfl | hp
  · exact h.n23
  · rcases List.mem_cons.mp hp with rfl | hp
    · exact h.n13
    · exact h.o3 p hp
theorem stage1 {h₀ h : Heap} {L nums tmp c1 c2 c3 tp ml : Addr} {vs' : List Value} {o2 o3 o4 o5 otp oml : Obj} {P : List (Addr × Obj)}
    (N : News h₀ L h ((tp, otp) :: (ml, oml) :: (P ++ [(nums, lst vs'), (tmp, o2), (c3, o3), (c2, o4), (c1, o5)])))
    (hdis : ∀ c, c ∈ [(nums, lst vs'), (tmp, o2), (c3, o3), (c2, o4), (c1, o5)].map (·.1) → tp ≠ c ∧ Off ((ml, oml) :: P) c) (hoff : Off [(tmp, o2), (c3, o3), (c2, o4), (c1, o5)] nums) (h12 : c1 ≠ c2) (h13 : c1 ≠ c3) (h23 : c2 ≠ c3) :
    ∃ rest, News h₀ L h ((tp, otp) :: (c3, o3) :: (c2, o4) :: (c1, o5) :: rest) ∧ Offs rest c1 c2 c3 ∧ tp ≠ c1 ∧ tp ≠ c2 ∧ tp ≠ c3 ∧ (nums, lst vs') ∈ rest ∧ (ml, oml) ∈ rest ∧ ∀ q ∈ P, q ∈ rest := by
  have d1 := hdis c1 (by simp)
  have d2 := hdis c2 (by simp)
  have d3 := hdis c3 (by simp)
  have q1 : nums ≠ c1 := fun e => hoff (c1, o5) (by simp) e.symm
  have q2 : nums ≠ c2 := fun e => hoff (c2, o4) (by simp) e.symm
  have q3 : nums ≠ c3 := fun e => hoff (c3, o3) (by simp) e.symm
  have off : ∀ c, nums ≠ c → Off ((ml, oml) :: P) c → Off ((nums, lst vs') :: (ml, oml) :: P) c := fun c hc ho p hp => by
    rcases List.mem_cons.mp hp with rfl | hp
    · exact hc
    · exact ho p hp
  refine ⟨(nums, lst vs') :: (ml, oml) :: P, fun p hp => N p ?_, ⟨off _ q1 d1.2, off _ q2 d2.2, off _ q3 d3.2, h12, h13, h23⟩, d1.1, d2.1, d3.1, .head _, .tail _ (.head _), fun q hq => .tail _ (.tail _ hq)⟩
  simp only [List.mem_cons, List.mem_append, List.not_mem_nil, or_false] at hp ⊢
  rcases hp with h | h | h | h | h | h | h <;> simp [h]
theorem stage2 {h₀ h h' : Heap} {L tp c1 c2 c3 ma : Addr} {otp o1 o2 o3 oma : Obj} {rest bl : List (Addr × Obj)} (N4 : News h₀ L h ((tp, otp) :: (c3, o3) :: (c2, o2) :: (c1, o1) :: rest)) (hofs : Offs rest c1 c2 c3) (N5 : News h₀ L h' ((ma, oma) :: bl)) (e : Ext h h') (fma : h.get? ma = none)
    (fbl : ∀ q ∈ bl, h.get? q.1 = none ∧ q.1 ≠ ma) :
    ∃ fx, News h₀ L h' ((c3, o3) :: (c2, o2) :: (c1, o1) :: (bl ++ fx)) ∧ Offs (bl ++ fx) c1 c2 c3 ∧ (ma, oma) ∈ fx ∧ (∀ q ∈ rest, q ∈ fx) ∧ ∀ b ∈ bl, Off ((c3, o3) :: (c2, o2) :: (c1, o1) :: fx) b.1 := by
  have old : ∀ q ∈ (c3, o3) :: (c2, o2) :: (c1, o1) :: rest, h.get? q.1 = some q.2 := fun q hq => (N4 q (.tail _ hq)).1
  have ne : ∀ a, h.get? a = none → ∀ q ∈ (c3, o3) :: (c2, o2) :: (c1, o1) :: rest, a ≠ q.1 := fun a ha q hq e => by rw [e, old q hq] at ha; cases ha
  have hc : ∀ c o, (c, o) ∈ (c3, o3) :: (c2, o2) :: (c1, o1) :: rest → Off rest c → Off (bl ++ (ma, oma) :: rest) c := fun c o hm ho p hp => by
    rcases List.mem_append.mp hp with hp | hp
    · exact ne _ (fbl p hp).1 _ hm
    · rcases List.mem_cons.mp hp with rfl | hp
      · exact ne _ fma _ hm
      · exact ho p hp
  refine ⟨(ma, oma) :: rest, fun p hp => ?_, ⟨hc c1 o1 (by simp) hofs.o1, hc c2 o2 (by simp) hofs.o2, hc c3 o3 (by simp) hofs.o3, hofs.n12, hofs.n13, hofs.n23⟩, .head _, fun q hq => .tail _ hq, fun b hb p hp => ?_⟩
  · have up : ∀ q ∈ (c3, o3) :: (c2, o2) :: (c1, o1) :: rest, h'.get? q.1 = some q.2 ∧ q.1 ≠ L ∧ h₀.get? q.1 = none := fun q hq => ⟨e _ _ (old q hq), (N4 q (.tail _ hq)).2⟩
    simp only [List.mem_cons, List.mem_append] at hp
    rcases hp with rfl | rfl | rfl | hp | rfl | hp
    · exact up _ (by simp)
    · exact up _ (by simp)
    · exact up _ (by simp)
    · exact N5 p (.tail _ hp)
    · exact N5 _ (.head _)
    · exact up p (by simp [hp])
  · simp only [List.mem_cons] at hp
    rcases hp with rfl | rfl | rfl | rfl | hp
    · exact fun q => ne _ (fbl b hb).1 _ (by simp) q.symm
    · exact fun q => ne _ (fbl b hb).1 (c2, o2) (by simp) q.symm
    · exact fun q => ne _ (fbl b hb).1 (c1, o1) (by simp) q.symm
    · exact fun q => (fbl b hb).2 q.symm
    · exact fun q => ne _ (fbl b hb).1 p (by simp [hp]) q.symm
theorem sub_left {a b : List (Addr × Obj)} : ∀ p ∈ a, p ∈ a ++ b := fun _ hp => List.mem_append_left _ hp
theorem sub_right {l a b : List (Addr × Obj)} (h : ∀ p ∈ l, p ∈ b) : ∀ p ∈ l, p ∈ a ++ b := fun p hp => List.mem_append_right _ (h p hp)
def updB (st : Nat → Bool) (k : Nat) : Nat → Bool := fun j => if j = k then true else st j
theorem updB_self {st : Nat → Bool} {k : Nat} : updB st k k = true := by unfold updB; rw [if_pos rfl]
theorem updB_ne {st : Nat → Bool} {k j : Nat} (h : j ≠ k) : updB st k j = st j := by unfold updB; rw [if_neg h]
theorem ring_st3 {prog : Program} {w : World} {A : Around} {E : Value → Shared → Prop} {s : Shared} {h₀ : Heap} {L : Addr} {m : Str → Option Value} {K : Frag} {S : RS} {st : Nat → Bool} {nx pv : Nat → Nat} {k : Nat} {a b c : Addr × Obj} {post : List (Addr × Obj)} {Q : Unit → Shared → Prop}
    (F : Fr h₀ L s.heap m) (X₀ : K.In h₀) (N : News h₀ L s.heap (a :: b :: c :: (blk w.params S st nx pv ++ post))) (hO : S.Ok) (hk : k < S.n) (off : Off (a :: b :: c :: post) (S.D k))
    (hs : findIn K (.ref 59) "__setattr__" = some (some (.builtin "object.__setattr__"))) (hp : plainOver K 59 = true) (ht : takerIn K 59 (Str.ofString "steiner") = some none) (hh : hasDictIn K 59 = true)
    (h : ∀ h', Fr h₀ L h' m → News h₀ L h' (a :: b :: c :: (blk w.params S (updB st k) nx pv ++ post)) → Q () { s with heap := h', toks := s.toks + 2 }) :
    wpAny (model prog w) A (setAttr (.ref (S.A k)) (Str.ofString "steiner") (.bool true)) Q E s := by
  have sub : ∀ q ∈ blk w.params S st nx pv, q ∈ a :: b :: c :: (blk w.params S st nx pv ++ post) := sub_tail (sub_tail (sub_tail sub_left))
  refine set_dict F X₀ N (ring_inst N sub hk) rfl hs hp ht hh (by rfl) ?_ (.tail (off _ (.head _)) (.tail (off _ (.tail _ (.head _))) (.tail (off _ (.tail _ (.tail _ (.head _))))
    (Upd.app (pre := []) (fun _ h => nomatch h) (fun p hp => off p (.tail _ (.tail _ (.tail _ hp)))) (upd_blk (nx' := nx) (pv' := pv) (st' := updB st k) hO hk fun j hj => ⟨updB_ne hj, rfl, rfl⟩))))) (by exact Nat.le_of_ble_eq_true rfl) h
  unfold ndEs
  rw [updB_self]
  rfl
def TurnS (h₀ : Heap) (L : Addr) (s : Shared) (P : (Nat → Bool) → List (Addr × Obj)) (x y : Str) (m₀ : Str → Option Value) (J : (Nat → Bool) → Prop) (f : Flow) (s₂ : Shared) : Prop :=
  f = .next ∧ ∃ h' tk' m₂ st', s₂ = { s with heap := h', toks := tk' } ∧ Fr h₀ L h' m₂ ∧ News h₀ L h' (P st') ∧ (∀ z, z ≠ x → z ≠ y → m₂ z = m₀ z) ∧ J st'
theorem TurnS.intro {h₀ : Heap} {L : Addr} {s : Shared} {P : (Nat → Bool) → List (Addr × Obj)} {x y : Str} {m₀ m₂ : Str → Option Value} {J : (Nat → Bool) → Prop} {h' : Heap} {tk' : Nat} (st' : Nat → Bool)
    (F : Fr h₀ L h' m₂) (N : News h₀ L h' (P st')) (hm : ∀ z, z ≠ x → z ≠ y → m₂ z = m₀ z) (hJ : J st') : TurnS h₀ L s P x y m₀ J .next { s with heap := h', toks := tk' } := ⟨rfl, h', tk', m₂, st', rfl, F, N, hm, hJ⟩
theorem rng_loop3 {prog : Program} {w : World} {A : Around} {E : Value → Shared → Prop} {s : Shared} {env : Env} {h₀ : Heap} {x : Str} {body : List Stmt} {Q : Flow → Shared → Prop} {r : Addr} {n : Nat} {t₀ u₀ v₀ : Tok} {m₀ : Str → Option Value} {a b c : Addr × Obj} {fx : List (Addr × Obj)}
    {S : RS} {st₀ : Nat → Bool} {nx pv : Nat → Nat} (y : Str) (J : Nat → (Nat → Bool) → Prop) (hh : A.handled = none) (hr : IsRange s.heap r 0 (n : Int) 1 t₀ u₀ v₀) (hn : n ≤ 1000) (F : Fr h₀ env.locals s.heap m₀) (N : News h₀ env.locals s.heap (a :: b :: c :: (blk w.params S st₀ nx pv ++ fx)))
    (hSn : S.n = n) (hoff : ∀ q ∈ blk w.params S st₀ nx pv, Off (a :: b :: c :: fx) q.1) (h0 : J 0 st₀)
    (turn : ∀ i t u st h tk fx', i < n → J i st → (∀ q ∈ fx, q ∈ fx') → Off (a :: b :: c :: fx') (S.D i) → Fr h₀ env.locals h (fun z => if z = x then some (.int ((i : Nat) : Int) t) else if z = y then u else m₀ z) →
      News h₀ env.locals h (a :: b :: c :: (blk w.params S st nx pv ++ fx')) → wpAny (model prog w) A (execs body env) (TurnS h₀ env.locals s (fun st => a :: b :: c :: (blk w.params S st nx pv ++ fx')) x y m₀ (J (i + 1))) E { s with heap := h, toks := tk })
    (done : ∀ u u' st h tk, J n st → Fr h₀ env.locals h (fun z => if z = x then u' else if z = y then u else m₀ z) → News h₀ env.locals h (a :: b :: c :: (blk w.params S st nx pv ++ fx)) → Q .next { s with heap := h, toks := tk }) :
    wpAny (model prog w) A (pyIter (.ref r)) (fun it s₂ => LoopAtV prog w A h₀ env x body Q E it s₂) E s := by
  refine rng_loop (fun i m nws => ∃ st, nws = a :: b :: c :: (blk w.params S st nx pv ++ fx) ∧ (∀ z, z ≠ x → z ≠ y → m z = m₀ z) ∧ J i st) hh hr hn F N ⟨st₀, rfl, fun _ _ _ => rfl, h0⟩ ?_ ?_
  · rintro i t m₁ nws h tk I own hi ⟨st, rfl, hm, hJ⟩ hnx hown _ F₁ N₁
    have e : (fun z => if z = x then some (.int ((i : Nat) : Int) t) else if z = y then m₁ y else m₀ z) = (fun z => if z = x then some (.int ((i : Nat) : Int) t) else m₁ z) := by
      funext z
      by_cases h1 : z = x
      · rw [if_pos h1, if_pos h1]
      · rw [if_neg h1, if_neg h1]
        by_cases h2 : z = y
        · rw [if_pos h2, h2]
        · rw [if_neg h2, hm z h1 h2]
    rw [← e] at F₁
    have hID : I ≠ S.D i := fun q => hnx (S.D i, _) (.tail _ (.tail _ (.tail _ (List.mem_append_left _ (mem_d (by omega)))))) q.symm
    have ho := hoff (S.D i, _) (mem_d (by omega))
    refine wpAny_mono (turn i t (m₁ y) st h tk (own ++ fx) hi hJ (fun q hq => List.mem_append_right _ hq) (fun p hp => ?_) F₁ (fun p hp => N₁ p ?_)) (fun f s₂ z => ?_) fun _ _ z => z
    · simp only [List.mem_cons, List.mem_append] at hp
      rcases hp with rfl | rfl | rfl | hp | hp
      · exact ho _ (by simp)
      · exact ho _ (by simp)
      · exact ho _ (by simp)
      · rw [hown p hp]; exact hID
      · exact ho p (by simp [hp])
    · simp only [List.mem_cons, List.mem_append] at hp ⊢
      rcases hp with h | h | h | h | h | h <;> simp [h]
    · obtain ⟨rfl, h', tk', m₂, st', rfl, F', N', hm', hJ'⟩ := z
      refine TurnG.intro F' (fun p hp => N' p ?_) (fun p hp => ?_) ⟨st', rfl, hm', hJ'⟩
      · simp only [List.mem_cons, List.mem_append] at hp ⊢
        rcases hp with h | h | h | h | h | h <;> simp [h]
      · simp only [List.mem_cons, List.mem_append] at hp
        rcases hp with rfl | rfl | rfl | hp | hp
        · exact hnx _ (by simp)
        · exact hnx _ (by simp)
        · exact hnx _ (by simp)
        · obtain ⟨j, hj, e9⟩ := blk_addr hp
          rcases e9 with e9 | e9
          · rw [e9]; exact hnx (S.A j, _) (.tail _ (.tail _ (.tail _ (List.mem_append_left _ (mem_a hj)))))
          · rw [e9]; exact hnx (S.D j, _) (.tail _ (.tail _ (.tail _ (List.mem_append_left _ (mem_d hj)))))
        · exact hnx p (by simp [hp])
  · rintro m₁ nws h tk ⟨st, rfl, hm, hJ⟩ F₁ N₁
    have e : (fun z => if z = x then m₁ x else if z = y then m₁ y else m₀ z) = m₁ := by
      funext z
      by_cases h1 : z = x
      · rw [if_pos h1, h1]
      · rw [if_neg h1]
        by_cases h2 : z = y
        · rw [if_pos h2, h2]
        · rw [if_neg h2, hm z h1 h2]
    rw [← e] at F₁
    exact done _ _ st h tk hJ F₁ N₁
theorem news_sub {h₀ h : Heap} {L : Addr} {l l' : List (Addr × Obj)} (N : News h₀ L h l) (sub : ∀ q ∈ l', q ∈ l) : News h₀ L h l' := fun p hp => N p (sub p hp)
end Mine
end
section
set_option maxHeartbeats 1000000
namespace Mine
theorem offT18 : True := by
  w_on
  w_top off
  exact trivial
end Mine
namespace Mine
theorem off_st {P : Params} {S : RS} {st st' : Nat → Bool} {nx pv nx' pv' : Nat → Nat} {fx : List (Addr × Obj)} {c : Addr} (h : Off (blk P S st nx pv ++ fx) c) : Off (blk P S st' nx' pv' ++ fx) c := fun q hq => by
  rcases List.mem_append.mp hq with hq | hq
  · obtain ⟨j, hj, e⟩ := blk_addr hq
    rcases e with e | e
    · rw [e]; exact h (S.A j, _) (List.mem_append_left _ (mem_a hj))
    · rw [e]; exact h (S.D j, _) (List.mem_append_left _ (mem_d hj))
  · exact h q (List.mem_append_right _ hq)
theorem offs_st {P : Params} {S : RS} {st : Nat → Bool} (st' : Nat → Bool) {nx pv : Nat → Nat} (nx' pv' : Nat → Nat) {fx : List (Addr × Obj)} {c1 c2 c3 : Addr} (h : Offs (blk P S st nx pv ++ fx) c1 c2 c3) : Offs (blk P S st' nx' pv' ++ fx) c1 c2 c3 :=
  ⟨off_st h.o1, off_st h.o2, off_st h.o3, h.n12, h.n13, h.n23⟩
theorem offb_st {P : Params} {S : RS} {st : Nat → Bool} (st' : Nat → Bool) {nx pv : Nat → Nat} (nx' pv' : Nat → Nat) {l : List (Addr × Obj)} (h : ∀ b ∈ blk P S st nx pv, Off l b.1) : ∀ b ∈ blk P S st' nx' pv', Off l b.1 := fun b hb => by
  obtain ⟨j, hj, e⟩ := blk_addr hb
  rcases e with e | e
  · rw [e]; exact h (S.A j, _) (mem_a hj)
  · rw [e]; exact h (S.D j, _) (mem_d hj)
theorem pts4 {h₀ h : Heap} {L lb a1 a2 a3 a4 : Addr} {x1 x2 x3 x4 y1 y2 y3 y4 : Int} {u1 u2 u3 u4 v1 v2 v3 v4 : Tok} {rest : List (Addr × Obj)}
    (N : News h₀ L h ((lb, listOf [Value.ref a1, .ref a2, .ref a3, .ref a4].toArray 0) :: (a4, { cls := .type "tuple", data := .seq [.int x4 u4, .int y4 v4].toArray }) :: (a3, { cls := .type "tuple", data := .seq [.int x3 u3, .int y3 v3].toArray }) ::
      (a2, { cls := .type "tuple", data := .seq [.int x2 u2, .int y2 v2].toArray }) :: (a1, { cls := .type "tuple", data := .seq [.int x1 u1, .int y1 v1].toArray }) :: rest))
    (h1 : 0 ≤ y1 ∧ y1 ≤ 2) (h2 : 0 ≤ y2 ∧ y2 ≤ 2) (h3 : 0 ≤ y3 ∧ y3 ≤ 2) (h4 : 0 ≤ y4 ∧ y4 ≤ 2) : ∃ t x y tx ty, Pts h lb 4 t x y tx ty := by
  have g := N _ (.head _)
  have g4 := N _ (.tail _ (.head _))
  have g3 := N _ (.tail _ (.tail _ (.head _)))
  have g2 := N _ (.tail _ (.tail _ (.tail _ (.head _))))
  have g1 := N _ (.tail _ (.tail _ (.tail _ (.tail _ (.head _)))))
  refine ⟨fun k => [a1, a2, a3, a4].getD k 0, fun k => [x1, x2, x3, x4].getD k 0, fun k => [y1, y2, y3, y4].getD k 0, fun k => [u1, u2, u3, u4].getD k 0, fun k => [v1, v2, v3, v4].getD k 0, ⟨_, g.1, rfl, _, rfl⟩, fun k hk => ?_, fun k hk => ?_⟩
  · match k, hk with
    | 0, _ => exact ⟨_, g1.1, rfl, _, rfl⟩
    | 1, _ => exact ⟨_, g2.1, rfl, _, rfl⟩
    | 2, _ => exact ⟨_, g3.1, rfl, _, rfl⟩
    | 3, _ => exact ⟨_, g4.1, rfl, _, rfl⟩
  · match k, hk with
    | 0, _ => exact h1
    | 1, _ => exact h2
    | 2, _ => exact h3
    | 3, _ => exact h4
theorem stage3 {h₀ h h' : Heap} {L c1 c2 c3 mb : Addr} {o1 o2 o3 omb : Obj} {f1 f2 f3 f4 f5 : Addr × Obj} {bl fx bl2 : List (Addr × Obj)} (N : News h₀ L h (f1 :: f2 :: f3 :: f4 :: f5 :: (c3, o3) :: (c2, o2) :: (c1, o1) :: (bl ++ fx))) (hofs : Offs (bl ++ fx) c1 c2 c3) (hoffb : ∀ b ∈ bl, Off ((c3, o3) :: (c2, o2) :: (c1, o1) :: fx) b.1)
    (N2 : News h₀ L h' ((mb, omb) :: bl2)) (e : Ext h h') (fmb : h.get? mb = none) (fb2 : ∀ q ∈ bl2, h.get? q.1 = none ∧ q.1 ≠ mb) :
    ∃ fx2, News h₀ L h' ((c3, o3) :: (c2, o2) :: (c1, o1) :: (bl ++ fx2)) ∧ Offs (bl ++ fx2) c1 c2 c3 ∧ (mb, omb) ∈ fx2 ∧ (∀ q ∈ fx, q ∈ fx2) ∧ (∀ q ∈ bl2, q ∈ fx2) ∧ ∀ b ∈ bl, Off ((c3, o3) :: (c2, o2) :: (c1, o1) :: fx2) b.1 := by
  have up : ∀ q ∈ (c3, o3) :: (c2, o2) :: (c1, o1) :: (bl ++ fx), h.get? q.1 = some q.2 ∧ h'.get? q.1 = some q.2 ∧ q.1 ≠ L ∧ h₀.get? q.1 = none := fun q hq => by
    have := N q (.tail _ (.tail _ (.tail _ (.tail _ (.tail _ hq)))))
    exact ⟨this.1, e _ _ this.1, this.2⟩
  have ne : ∀ a, h.get? a = none → ∀ q ∈ (c3, o3) :: (c2, o2) :: (c1, o1) :: (bl ++ fx), a ≠ q.1 := fun a ha q hq e => by rw [e, (up q hq).1] at ha; cases ha
  have fr : ∀ q ∈ (mb, omb) :: bl2, h.get? q.1 = none := fun q hq => by
    rcases List.mem_cons.mp hq with rfl | hq
    · exact fmb
    · exact (fb2 q hq).1
  have hc : ∀ c o, (c, o) ∈ (c3, o3) :: (c2, o2) :: (c1, o1) :: (bl ++ fx) → Off (bl ++ fx) c → Off (bl ++ ((mb, omb) :: (bl2 ++ fx))) c := fun c o hm ho p hp => by
    rcases List.mem_append.mp hp with hp | hp
    · exact ho p (List.mem_append_left _ hp)
    · rw [← List.cons_append] at hp
      rcases List.mem_append.mp hp with hp | hp
      · exact ne _ (fr p hp) _ hm
      · exact ho p (List.mem_append_right _ hp)
  refine ⟨(mb, omb) :: (bl2 ++ fx), fun p hp => ?_, ⟨hc c1 o1 (by simp) hofs.o1, hc c2 o2 (by simp) hofs.o2, hc c3 o3 (by simp) hofs.o3, hofs.n12, hofs.n13, hofs.n23⟩, .head _, fun q hq => .tail _ (List.mem_append_right _ hq), fun q hq => .tail _ (List.mem_append_left _ hq), fun b hb p hp => ?_⟩
  · simp only [List.mem_cons, List.mem_append] at hp
    rcases hp with rfl | rfl | rfl | hp | rfl | hp | hp
    · exact (up _ (by simp)).2
    · exact (up _ (by simp)).2
    · exact (up _ (by simp)).2
    · exact (up p (by simp [hp])).2
    · exact N2 _ (.head _)
    · exact N2 p (.tail _ hp)
    · exact (up p (by simp [hp])).2
  · simp only [List.mem_cons, List.mem_append] at hp
    rcases hp with rfl | rfl | rfl | rfl | hp | hp
    · exact hoffb b hb _ (by simp)
    · exact hoffb b hb _ (by simp)
    · exact hoffb b hb _ (by simp)
    · exact ne _ fmb b (by simp [hb])
    · exact ne _ (fb2 p hp).1 b (by simp [hb])
    · exact hoffb b hb p (by simp [hp])
section
variable {prog : Program} {w : World} {A : Around} {E : Value → Shared → Prop} {s : Shared} {value slice : Expr} {a b : Addr} {vs ws : List Value} {l k : List Nat} {u t : Tok} {Q : Value → Shared → Prop} {h₀ : Heap} {L : Addr} {m : Str → Option Value} {news : List (Addr × Obj)}
theorem mod_nat {v : Int} {n : Nat} (hn : 0 < n) (h : ∀ b : Nat, b < n → Q (.int ((b : Nat) : Int) s.toks) { s with toks := s.toks + 1 }) : wpAny (model prog w) A (binaryOp .Mod (.int v t) (.int ((n : Nat) : Int) u)) Q E s := by
  refine mod_int' (by omega) ?_
  have h1 : 0 ≤ Int.fmod v n := Int.fmod_nonneg_of_pos _ (by omega)
  have h2 : Int.fmod v n < n := Int.fmod_lt_of_pos _ (by omega)
  obtain ⟨b, hb⟩ := Int.eq_ofNat_of_zero_le h1
  rw [hb]
  exact h b (by omega)
theorem list_range {r : Addr} {n : Nat} {t₀ u₀ v₀ : Tok} (F : Fr h₀ L s.heap m) (N : News h₀ L s.heap news) (hh : A.handled = none) (hr : IsRange s.heap r 0 (n : Int) 1 t₀ u₀ v₀) (hn : n ≤ 1000)
    (h : ∀ h' tk c vs e, Fr h₀ L h' m → News h₀ L h' ((c, listOf vs.toArray e) :: news) → Nums vs (List.range n) → Q (.ref c) { s with heap := h', toks := tk }) : wpAny (model prog w) A (call (.type "list") [.ref r]) Q E s := by
  refine call_list_range (n := n) hh hr (rng_small hn) rng_size (by omega) (fun h' tk acc e keep hc hI => ?_)
  have hv : Nums acc.toList (List.range n) := by
    have hsz : acc.size = n := hI.1
    have : ∀ (k : Nat) (vs : List Value), (∀ i : Nat, i < vs.length → ∃ t, vs[i]? = some (.int ((k + i : Nat) : Int) t)) → Nums vs ((List.range vs.length).map (k + ·)) := by
      intro k vs
      induction vs generalizing k with
      | nil => intro _; exact .nil
      | cons v vs ih =>
        intro hv
        obtain ⟨t, e⟩ := hv 0 (by simp)
        have e : v = .int ((k : Nat) : Int) t := by simpa using e
        subst e
        have := ih (k + 1) (fun i hi => by
          obtain ⟨t, e⟩ := hv (i + 1) (by simp; omega)
          refine ⟨t, ?_⟩
          rw [show k + 1 + i = k + (i + 1) by omega]
          simpa using e)
        rw [List.length_cons, List.range_succ_eq_map, List.map_cons, List.map_map]
        have e2 : ((fun x => k + x) ∘ Nat.succ) = fun x => k + 1 + x := funext fun x => by simp; omega
        rw [e2]
        exact .cons k t this
    have q := this 0 acc.toList (fun i hi => by
      have hi2 : i < acc.size := by rw [Array.length_toList] at hi; exact hi
      obtain ⟨t, e⟩ := hI.2 i acc[i] (Array.getElem?_eq_getElem hi2)
      refine ⟨t, ?_⟩
      rw [Array.getElem?_toList, Array.getElem?_eq_getElem hi2, e]
      congr 2
      omega)
    rw [Array.length_toList, hsz] at q
    simpa using q
  refine h h' tk _ acc.toList e (F.keeps keep) (fun p hp => ?_) hv
  rcases List.mem_cons.mp hp with rfl | hp
  · refine ⟨by simpa using hc, Nat.ne_of_gt F.ns.lt, ?_⟩
    cases q : h₀.get? s.heap.objs.size with
    | none => rfl
    | some o => exact absurd (Heap.lt_size (F.keep _ _ q)) (Nat.lt_irrefl _)
  · exact N.grown keep p hp
theorem sp_fromN {c : Nat} (hv : Nums vs l) : slicePick vs.toArray (some (c : Int)) none none = (vs.drop c).toArray ∧ Nums (vs.drop c) (l.drop c) := ⟨slicePick_from' vs.toArray c, hv.drop⟩
theorem sp_uptoN {c : Nat} (hv : Nums vs l) : slicePick vs.toArray none (some (c : Int)) none = (vs.take c).toArray ∧ Nums (vs.take c) (l.take c) := ⟨slicePick_upto' vs.toArray c, hv.take⟩
theorem slice_numE {e : Nat} {vl vu : Value} {lo hi : Option Int} (F : Fr h₀ L s.heap m) (N : News h₀ L s.heap news) (hm : (a, listOf vs.toArray e) ∈ news) (hv : Nums vs l) (hsz : l.length ≤ 1000) (pl : IsPart vl lo) (pu : IsPart vu hi)
    (e : slicePick vs.toArray lo hi none = ws.toArray ∧ Nums ws k)
    (h : ∀ h' b, Fr h₀ L h' m → News h₀ L h' ((b, lst ws) :: news) → Nums ws k → Q (.ref b) { s with heap := h' })
    (hs : subscripted slice false (.ref a) (.ref s.heap.objs.size) = operate [.ref s.heap.objs.size, .ref a] (getItem (.ref a) (.ref s.heap.objs.size)) := by with_unfolding_all rfl)
    (ht : ∀ r, letTemporaryGo value (.ref a) r = pure () := by intro _; with_unfolding_all rfl) :
    wpAny (model prog w) A (subscriptTail value slice (.ref a) (.ref s.heap.objs.size)) Q E { s with heap := s.heap.push { cls := .type "slice", data := .fields #[vl, vu, .none] } } := by
  refine slice_list F N (News.isList N hm) pl pu (fun h' F' N' => ?_) hs ht (by rw [List.size_toArray, hv.len, sizeLine_eq]; omega)
  rw [e.1] at N'
  exact h h' _ F' N' e.2
theorem add_rot {vs1 vs2 : List Value} {n c : Nat} (F : Fr h₀ L s.heap m) (N : News h₀ L s.heap news) (h1 : (a, lst vs1) ∈ news) (h2 : (b, lst vs2) ∈ news) (n1 : Nums vs1 ((List.range n).drop c)) (n2 : Nums vs2 ((List.range n).take c)) (hn : n ≤ 1000)
    (h : ∀ h' d vs, Fr h₀ L h' m → News h₀ L h' ((d, lst vs) :: news) → Nums vs ((List.range n).drop c ++ (List.range n).take c) → Off news d → Q (.ref d) { s with heap := h' }) :
    wpAny (model prog w) A (binaryOp .Add (.ref a) (.ref b)) Q E s := by
  have e1 := n1.len
  have e2 := n2.len
  rw [List.length_drop, List.length_range] at e1
  rw [List.length_take, List.length_range] at e2
  exact add_lists F N (News.isList N h1) (News.isList N h2) (fun h' F' N' => h h' _ _ F' N' (n1.app n2) (fun p hp => Nat.ne_of_lt (Heap.lt_size (N p hp).1))) (by rw [sizeLine_eq]; omega)
theorem nums_ints {vs : List Value} {l : List Nat} (h : Nums vs l) : IntsAre vs (l.map fun k => ((k : Nat) : Int)) := by
  induction h with
  | nil => exact .nil
  | cons k t _ ih => exact .cons _ t ih
theorem notin_num {j : Nat} (hl : s.heap.IsList a vs.toArray) (hv : Nums vs l) (h : Q (.bool (!decide (j ∈ l))) s) : wpAny (model prog w) A (compareOp .NotIn (.int ((j : Nat) : Int) t) (.ref a)) Q E s := by
  refine notin_list_ints hl (nums_ints hv) ?_
  have e : (l.map fun k => ((k : Nat) : Int)).any (· == (j : Int)) = decide (j ∈ l) := by
    rw [List.any_map]
    by_cases h : j ∈ l
    · rw [decide_eq_true h, List.any_eq_true]; exact ⟨j, h, by simp⟩
    · rw [decide_eq_false h, List.any_eq_false]
      intro x hx; simp only [Function.comp, beq_iff_eq]; intro q; exact h (by have : x = j := by omega
                                                                              exact this ▸ hx)
  rw [e]; exact h
theorem item_head (hl : s.heap.IsList a vs.toArray) (hv : Nums vs l) (hj : l ≠ []) (hsz : l.length ≤ 1000) (h : ∀ t, Q (.int ((l.headD 0 : Nat) : Int) t) s)
    (hs : subscripted slice false (.ref a) (.int 0 u) = operate [.ref a, .int 0 u] (getItem (.ref a) (.int 0 u)) := by with_unfolding_all rfl) :
    wpAny (model prog w) A (subscriptTail value slice (.ref a) (.int 0 u)) Q E s := by
  refine item_num (j := 0) hl hv rfl (List.length_pos_iff.mpr hj) hsz (fun t => ?_) hs
  rw [getD_head]; exact h t
end
theorem ca1 (n : Nat) : (n : Int) + 1 = ((n + 1 : Nat) : Int) := rfl
theorem ca2 (n : Nat) : (n : Int) + 2 = ((n + 2 : Nat) : Int) := rfl
theorem ca3 (n : Nat) : (n : Int) + 3 = ((n + 3 : Nat) : Int) := rfl
/-- the two readings of a node that goes agree -/
theorem area_cross {S : RS} {x y : Nat → Int} {i j k : Nat} (hi : S.x i = x i ∧ S.y i = y i) (hj : S.x j = x j ∧ S.y j = y j) (hk : S.x k = x k ∧ S.y k = y k) : areaV S i j k = - crossV x y i j k := by
  unfold areaV crossV
  rw [hi.1, hi.2, hj.1, hj.2, hk.1, hk.2]
  simp only [Int.sub_mul, Int.mul_sub]
  have := Int.mul_comm (y j) (x k); have := Int.mul_comm (y j) (x j); have := Int.mul_comm (y i) (x k); have := Int.mul_comm (y i) (x j); have := Int.mul_comm (x j) (y j)
  have := Int.mul_comm (y i) (x i); have := Int.mul_comm (y j) (x i)
  omega
theorem RR_RL {S : RS} {st mk : Nat → Bool} {x y : Nat → Int} {n : Nat} (hn : S.n = n) (hxy : ∀ j, j < n → S.x j = x j ∧ S.y j = y j) (hst : ∀ j, j < n → st j = mk j) {l : List Nat} (hne : l ≠ []) (hl : ∀ k ∈ l, k < n) : RR S st l = RL x y mk l := by
  have pos : 0 < l.length := List.length_pos_iff.mpr hne
  have h1 : l.headD 0 < n := by
    match l, hne, hl with
    | a :: t, _, h => exact h a (.head _)
  have h2 : l.getLastD 0 < n := by
    rw [List.getLastD_eq_getLast?, List.getLast?_eq_some_getLast hne]
    exact hl _ (List.getLast_mem hne)
  have h3 : l.getD (1 % l.length) 0 < n := getD_lt hl (Nat.mod_lt _ pos)
  unfold RR RL
  rw [hst _ h1, area_cross (hxy _ h2) (hxy _ h1) (hxy _ h3)]
  congr 1
  rw [decide_eq_decide]
  omega
theorem filt_RR {R R' : List Nat → Bool} {n : Nat} (h : ∀ l, l ≠ [] → (∀ k ∈ l, k < n) → R l = R' l) : ∀ (fu : Nat) (l : List Nat) (stop : Nat), l ≠ [] → (∀ k ∈ l, k < n) → filtN R fu l stop = filtN R' fu l stop
  | 0, _, _, _, _ => rfl
  | fu + 1, l, stop, hne, hl => by
    unfold filtN
    rw [h l hne hl, filt_RR h fu (back l) _ back_ne (fun k hk => hl k (mem_back hne hk)), filt_RR h fu (fwd l) _ fwd_ne (fun k hk => hl k ((mem_fwd hne).mp hk))]
end Mine
end
section
set_option maxHeartbeats 1000000
namespace Mine
theorem offT19 : True := by
  w_on
  w_top off
  exact trivial
end Mine
namespace Mine
abbrev rot (n b : Nat) : List Nat := (List.range n).drop b ++ (List.range n).take b
def PickE (n b κ : Nat) (s : Shared) (v : Value) (s' : Shared) : Prop := ∃ (e : Nat) (tk : Nat) (t : Tok), v = .int (e : Int) t ∧ e < n ∧ (κ < 2 → e = b) ∧ s' = { s with toks := tk }
theorem held_pick {M : Model} {A : Around} {E : Value → Shared → Prop} {s : Shared} {c : Sem Value} {Q : Value → Shared → Prop} {n b κ : Nat} (hb : b < n) (hκ : κ < 3) (h : wpAny M A c (PickE n b κ s) E s)
    (k : ∀ (e tk : Nat) (t : Tok), e < n → (κ < 2 → e = b) → Q (.int (e : Int) t) { s with toks := tk }) : wpAny M A c Q E s :=
  wpAny_mono h (fun v s' z => by obtain ⟨e, tk, t, rfl, he, hk, rfl⟩ := z; exact k e tk t he hk) (fun _ _ z => z)
theorem rot_keeps {n : Nat} (I : List Nat → Prop) (h0 : I (List.range n)) (hf : ∀ l, l ≠ [] → I l → I (fwd l)) : ∀ b, b ≤ n → I (rot n b) := by
  intro b
  induction b with
  | zero => intro _; simpa [rot] using h0
  | succ b ih =>
    intro hb
    have hb' : b < (List.range n).length := by rw [List.length_range]; omega
    have e1 : (List.range n).drop b = b :: (List.range n).drop (b + 1) := by
      rw [List.drop_eq_getElem_cons hb']; simp
    have e2 : (List.range n).take (b + 1) = (List.range n).take b ++ [b] := by
      rw [List.take_succ_eq_append_getElem hb']; simp
    have := hf (rot n b) (by unfold rot; rw [e1]; simp) (ih (by omega))
    have e3 : fwd (rot n b) = rot n (b + 1) := by
      unfold rot
      rw [e1, e2]
      show ((List.range n).drop (b + 1) ++ (List.range n).take b) ++ [b] = _
      rw [List.append_assoc]
    rw [← e3]; exact this
theorem ch_range {n : Nat} : ∀ k a, a + k + 1 = n → Ch (rN n) (rP n) a (List.range' (a + 1) k) 0 := by
  intro k
  induction k with
  | zero =>
    intro a h
    refine ⟨?_, ?_⟩
    · unfold rN; rw [if_pos (by omega)]
    · unfold rP; rw [if_pos rfl]; omega
  | succ k ih =>
    intro a h
    rw [List.range'_succ]
    refine ⟨⟨?_, ?_⟩, ih (a + 1) (by omega)⟩
    · unfold rN; rw [if_neg (by omega)]
    · unfold rP; rw [if_neg (by omega)]; omega
theorem linked_range {n : Nat} (hn : 1 ≤ n) : Linked (rN n) (rP n) (List.range n) := by
  rw [List.range_eq_range']
  obtain ⟨k, rfl⟩ : ∃ k, n = k + 1 := ⟨n - 1, by omega⟩
  rw [List.range'_succ]
  exact ch_range k 0 (by omega)
def Asc (l : List Nat) : Prop := ∃ u v, l = u ++ v ∧ (v ++ u).Pairwise (· < ·)
theorem asc_fwd {l : List Nat} (hl : l ≠ []) (h : Asc l) : Asc (fwd l) := by
  obtain ⟨u, v, rfl, hp⟩ := h
  match u with
  | a :: u' =>
    refine ⟨u', v ++ [a], ?_, by simpa using hp⟩
    show (u' ++ v) ++ [a] = _
    rw [List.append_assoc]
  | [] =>
    match v, hl with
    | a :: v', _ => exact ⟨v', [a], rfl, by simpa using hp⟩
theorem asc_tail {a : Nat} {l : List Nat} (h : Asc (a :: l)) : Asc l := by
  obtain ⟨u, v, e, hp⟩ := h
  match u, e with
  | b :: u', e =>
    cases e
    refine ⟨u', v, rfl, hp.sublist ?_⟩
    exact (List.Sublist.refl v).append (List.sublist_cons_self _ _)
  | [], e =>
    match v, e with
    | b :: v', e =>
      cases e
      refine ⟨[], l, rfl, ?_⟩
      rw [List.append_nil] at hp ⊢
      exact (List.pairwise_cons.mp hp).2
theorem asc_rot {t : List Nat} {z : Nat} (h : Asc (t ++ [z])) : Asc (z :: t) := by
  obtain ⟨u, v, e, hp⟩ := h
  rcases List.eq_nil_or_concat v with rfl | ⟨v', y, rfl⟩
  · rw [List.append_nil] at e
    subst e
    exact ⟨[z], t, rfl, by simpa using hp⟩
  · rw [List.concat_eq_append, ← List.append_assoc] at e
    obtain ⟨e1, e2⟩ := List.append_inj' e rfl
    have e3 : z = y := by simpa using e2
    rw [e1, e3]
    refine ⟨y :: u, _, rfl, by simpa using hp⟩
theorem asc_back {l : List Nat} (hl : l ≠ []) (h : Asc l) : Asc (back l) := by
  match l, hl with
  | a :: t, _ =>
    rcases List.eq_nil_or_concat t with rfl | ⟨t', z, rfl⟩
    · exact h
    · rw [List.concat_eq_append] at *
      rw [back_concat]
      exact asc_rot (asc_tail h)
theorem getD_app_l {u v : List Nat} {k : Nat} (h : k < u.length) : (u ++ v).getD k 0 = u.getD k 0 := by
  rw [List.getD_eq_getElem?_getD, List.getElem?_append_left h, List.getD_eq_getElem?_getD]
theorem getD_app_r {u v : List Nat} {k : Nat} (h : u.length ≤ k) : (u ++ v).getD k 0 = v.getD (k - u.length) 0 := by
  rw [List.getD_eq_getElem?_getD, List.getElem?_append_right h, List.getD_eq_getElem?_getD]
theorem pw_lt {w : List Nat} (h : w.Pairwise (· < ·)) {i j : Nat} (hij : i < j) (hj : j < w.length) : w.getD i 0 < w.getD j 0 := by
  rw [List.getD_eq_getElem?_getD, List.getD_eq_getElem?_getD, List.getElem?_eq_getElem hj, List.getElem?_eq_getElem (Nat.lt_trans hij hj)]
  exact List.pairwise_iff_getElem.mp h i j _ hj hij
theorem asc_step {u v : List Nat} (h : (v ++ u).Pairwise (· < ·)) {k : Nat} (hk : k < (u ++ v).length) (hne : (k + 1) % (u ++ v).length ≠ u.length % (u ++ v).length) : (u ++ v).getD k 0 < (u ++ v).getD ((k + 1) % (u ++ v).length) 0 := by
  have hlen : (u ++ v).length = u.length + v.length := List.length_append
  have hlen2 : (v ++ u).length = v.length + u.length := List.length_append
  have atU : ∀ i, i < u.length → (u ++ v).getD i 0 = (v ++ u).getD (v.length + i) 0 := fun i hi => by
    rw [getD_app_l hi, getD_app_r (by omega)]; congr 1; omega
  have atV : ∀ i, u.length ≤ i → i < u.length + v.length → (u ++ v).getD i 0 = (v ++ u).getD (i - u.length) 0 := fun i h1 h2 => by
    rw [getD_app_r h1, getD_app_l (by omega)]
  by_cases h1 : k + 1 < (u ++ v).length
  · rw [Nat.mod_eq_of_lt h1] at hne ⊢
    by_cases h2 : k + 1 < u.length
    · rw [atU k (by omega), atU (k + 1) h2]; exact pw_lt h (by omega) (by omega)
    · by_cases h3 : k + 1 = u.length
      · exact absurd (by rw [h3, Nat.mod_eq_of_lt (by omega)]) hne
      · rw [atV k (by omega) (by omega), atV (k + 1) (by omega) (by omega)]; exact pw_lt h (by omega) (by omega)
  · have e : k + 1 = (u ++ v).length := by omega
    rw [e, Nat.mod_self] at hne ⊢
    have hu : u.length ≠ 0 := fun q => hne (by rw [q, Nat.zero_mod])
    have hv : v.length ≠ 0 := fun q => hne (by rw [show (u ++ v).length = u.length by omega, Nat.mod_self])
    rw [atV k (by omega) (by omega), atU 0 (by omega)]; exact pw_lt h (by omega) (by omega)
def down (r : List Nat) (k : Nat) : Bool := decide (r.getD ((k + 1) % r.length) 0 < r.getD k 0)
theorem one_down {r : List Nat} (h : Asc r) : ((List.range r.length).filter (down r)).length ≤ 1 := by
  obtain ⟨u, v, rfl, hp⟩ := h
  have key : ∀ k, k ∈ (List.range (u ++ v).length).filter (down (u ++ v)) → k < (u ++ v).length ∧ (k + 1) % (u ++ v).length = u.length % (u ++ v).length := fun k hk => by
    obtain ⟨h1, h2⟩ := List.mem_filter.mp hk
    have h1 := List.mem_range.mp h1
    refine ⟨h1, ?_⟩
    by_cases q : (k + 1) % (u ++ v).length = u.length % (u ++ v).length
    · exact q
    · have := asc_step hp h1 q
      unfold down at h2
      have h2 := of_decide_eq_true h2
      omega
  have same : ∀ i j m, i < m → j < m → (i + 1) % m = (j + 1) % m → i = j := fun i j m hi hj e => by
    by_cases h1 : i + 1 < m
    · by_cases h2 : j + 1 < m
      · rw [Nat.mod_eq_of_lt h1, Nat.mod_eq_of_lt h2] at e; omega
      · rw [Nat.mod_eq_of_lt h1, show j + 1 = m by omega, Nat.mod_self] at e; omega
    · by_cases h2 : j + 1 < m
      · rw [Nat.mod_eq_of_lt h2, show i + 1 = m by omega, Nat.mod_self] at e; omega
      · omega
  have nd : ((List.range (u ++ v).length).filter (down (u ++ v))).Nodup := List.nodup_range.filter _
  match e : (List.range (u ++ v).length).filter (down (u ++ v)) with
  | [] => simp
  | [a] => simp
  | a :: b :: t =>
    rw [e] at nd key
    obtain ⟨a1, a2⟩ := key a (.head _)
    obtain ⟨b1, b2⟩ := key b (.tail _ (.head _))
    have := same a b _ a1 b1 (a2.trans b2.symm)
    subst this
    rw [List.nodup_cons] at nd
    exact absurd (.head _) nd.1
theorem mem_back' {l : List Nat} {x : Nat} (h : x ∈ l) (hx : x ≠ l.headD 0) : x ∈ back l := by
  match l, h with
  | a :: t, h =>
    have hx : x ≠ a := hx
    rcases List.eq_nil_or_concat t with rfl | ⟨t', z, rfl⟩
    · exact h
    · rw [List.concat_eq_append] at *
      rw [back_concat]
      simp at h ⊢
      rcases h with h | h | h
      · exact absurd h hx
      · exact .inr h
      · exact .inl h
theorem law_run {x y : Nat → Int} {mk : Nat → Bool} {n b e : Nat} (hb : b < n) (he : e < n) : ∃ fu r, filtN (RL x y mk) fu (rot n b) e = some r ∧ r ≠ [] ∧ r.Nodup ∧ (∀ k ∈ r, k < n) ∧ r.length ≤ n ∧ Asc r ∧ (∀ k, k < n → mk k = true → k ∈ r) ∧
    (e = b → (r.length = 1 ∨ AllPass (RL x y mk) r)) := by
  have r1 : (rot n b).Nodup ∧ (∀ k, k ∈ rot n b ↔ k < n) ∧ (rot n b).length = n ∧ Asc (rot n b) := by
    refine rot_keeps (fun l => l.Nodup ∧ (∀ k, k ∈ l ↔ k < n) ∧ l.length = n ∧ Asc l) ⟨List.nodup_range, fun k => List.mem_range, List.length_range, [], List.range n, rfl, by rw [List.append_nil]; exact List.pairwise_lt_range⟩ ?_ b (by omega)
    rintro l hl ⟨h1, h2, h3, h4⟩
    exact ⟨nodup_fwd hl h1, fun k => (mem_fwd hl).trans (h2 k), (len_fwd hl).trans h3, asc_fwd hl h4⟩
  obtain ⟨nd, mem, len, asc⟩ := r1
  have hne : rot n b ≠ [] := fun q => by rw [q] at len; simp at len; omega
  obtain ⟨fu, r, run⟩ := filt_ends (RL x y mk) n (rot n b) (by omega) hne e ((mem e).mpr he)
  have kp := filt_keeps (R := RL x y mk) (fun l => l.Nodup ∧ (∀ k ∈ l, k < n) ∧ l.length ≤ n ∧ Asc l ∧ ∀ k, k < n → mk k = true → k ∈ l)
    (fun l hl ⟨h1, h2, h3, h4, h5⟩ hR => ⟨nodup_back hl h1, fun k hk => h2 k (mem_back hl hk), Nat.le_trans (len_back_le hl) h3, asc_back hl h4, fun k hk hm => mem_back' (h5 k hk hm) (fun q => by
      unfold RL at hR
      rw [q] at hm
      rw [hm] at hR
      simp at hR)⟩)
    (fun l hl ⟨h1, h2, h3, h4, h5⟩ => ⟨nodup_fwd hl h1, fun k hk => h2 k ((mem_fwd hl).mp hk), Nat.le_trans (Nat.le_of_eq (len_fwd hl)) h3, asc_fwd hl h4, fun k hk hm => (mem_fwd hl).mpr (h5 k hk hm)⟩)
    fu _ _ _ hne ⟨nd, fun k hk => (mem k).mp hk, Nat.le_of_eq len, asc, fun k hk _ => (mem k).mpr hk⟩ run
  obtain ⟨k1, k2, k3, k4, k5, k6⟩ := kp
  refine ⟨fu, r, run, k1, k2, k3, k4, k5, k6, fun eb => ?_⟩
  subst eb
  refine filt_done fu (rot n e) [] e r (by rw [List.append_nil]; exact nd) hne ?_ (fun x y q hy => ?_) (by rw [List.append_nil]; exact run)
  · show (rot n e).headD 0 = e
    unfold rot
    have hb' : e < (List.range n).length := by rw [List.length_range]; omega
    rw [List.drop_eq_getElem_cons hb']; simp
  · have := congrArg List.length q
    simp at q
    exact absurd q.2 hy
theorem rot_head {n b : Nat} (hb : b < n) : (rot n b).headD 0 = b := by
  unfold rot
  have hb' : b < (List.range n).length := by rw [List.length_range]; omega
  rw [List.drop_eq_getElem_cons hb']; simp
theorem rot_facts {n b : Nat} (hb : b < n) : rot n b ≠ [] ∧ (rot n b).Nodup ∧ (∀ k ∈ rot n b, k < n) ∧ (rot n b).length = n ∧ Linked (rN n) (rP n) (rot n b) := by
  have := rot_keeps (n := n) (fun l => l ≠ [] ∧ l.Nodup ∧ (∀ k ∈ l, k < n) ∧ l.length = n ∧ Linked (rN n) (rP n) l)
    ⟨fun q => by have := congrArg List.length q; simp at this; omega, List.nodup_range, fun k hk => List.mem_range.mp hk, List.length_range, linked_range (by omega)⟩
    (fun l hl ⟨_, h1, h2, h3, h4⟩ => ⟨fwd_ne, nodup_fwd hl h1, fun k hk => h2 k ((mem_fwd hl).mp hk), (len_fwd hl).trans h3, linked_fwd h4⟩) b (by omega)
  exact this
theorem mk_LG {x y : Nat → Int} {mk : Nat → Bool} {n b e fu : Nat} {r : List Nat} {vs : List Value} (hb : b < n) (hn : n ≤ 1000) (hv : Nums vs (rot n b)) (run : filtN (RL x y mk) fu (rot n b) e = some r) : LG n x y mk r fu (rot n b) e vs := by
  obtain ⟨h1, h2, h3, h4, h5⟩ := rot_facts hb
  exact ⟨h1, h3, by omega, hv, run⟩
theorem mk_FG {S : RS} {st mk : Nat → Bool} {x y : Nat → Int} {n b e fu : Nat} {r : List Nat} (hn : S.n = n) (hxy : ∀ j, j < n → S.x j = x j ∧ S.y j = y j) (hst : ∀ j, j < n → st j = mk j) (hb : b < n) (he : e < n) (run : filtN (RL x y mk) fu (rot n b) e = some r) :
    FG S st r fu (rot n b) e (rN n) (rP n) := by
  obtain ⟨h1, h2, h3, h4, h5⟩ := rot_facts hb
  refine ⟨h1, h2, fun k hk => hn ▸ h3 k hk, h5, hn ▸ rN_maps n, hn ▸ rP_maps n, hn ▸ he, ?_⟩
  rw [filt_RR (n := n) (fun l hne hl => RR_RL hn hxy hst hne hl) fu (rot n b) e h1 h3]
  exact run
theorem mk_FG2 {S : RS} {st mk : Nat → Bool} {x y : Nat → Int} {n : Nat} {r : List Nat} {nx pv : Nat → Nat} (hn : S.n = n) (hxy : ∀ j, j < n → S.x j = x j ∧ S.y j = y j) (hst : ∀ j, j < n → st j = mk j) (hne : r ≠ []) (nd : r.Nodup) (hr : ∀ k ∈ r, k < n) (hl : Linked nx pv r) (mn : Maps S.n nx) (mp : Maps S.n pv)
    (h : r.length = 1 ∨ AllPass (RL x y mk) r) : ∃ fu, FG S st r fu r (r.headD 0) nx pv := by
  obtain ⟨m, run⟩ := filt_same hne nd h
  have h0 : r.headD 0 < n := by
    match r, hne, hr with
    | a :: t, _, h => exact h a (.head _)
  refine ⟨m, hne, nd, fun k hk => hn ▸ hr k hk, hl, mn, mp, hn ▸ h0, ?_⟩
  rw [filt_RR (n := n) (fun l hne hl => RR_RL hn hxy hst hne hl) m r _ hne hr]
  exact run
theorem stage5 {h₀ h h' : Heap} {L c1 c2 c3 d : Addr} {o1 o2 o3 o : Obj} {bl fx : List (Addr × Obj)} (N : News h₀ L h ((c3, o3) :: (c2, o2) :: (c1, o1) :: (bl ++ fx))) (hofs : Offs (bl ++ fx) c1 c2 c3) (hoffb : ∀ b ∈ bl, Off ((c3, o3) :: (c2, o2) :: (c1, o1) :: fx) b.1)
    (N2 : News h₀ L h' [(d, o)]) (e : Ext h h') (fd : h.get? d = none) :
    News h₀ L h' ((c3, o3) :: (c2, o2) :: (c1, o1) :: (bl ++ (d, o) :: fx)) ∧ Offs (bl ++ (d, o) :: fx) c1 c2 c3 ∧ ∀ b ∈ bl, Off ((c3, o3) :: (c2, o2) :: (c1, o1) :: (d, o) :: fx) b.1 := by
  have ne : ∀ q ∈ (c3, o3) :: (c2, o2) :: (c1, o1) :: (bl ++ fx), d ≠ q.1 := fun q hq e => by rw [e, (N q hq).1] at fd; cases fd
  have hc : ∀ c o', (c, o') ∈ (c3, o3) :: (c2, o2) :: (c1, o1) :: (bl ++ fx) → Off (bl ++ fx) c → Off (bl ++ (d, o) :: fx) c := fun c o' hm ho p hp => by
    rcases List.mem_append.mp hp with hp | hp
    · exact ho p (List.mem_append_left _ hp)
    · rcases List.mem_cons.mp hp with rfl | hp
      · exact ne _ hm
      · exact ho p (List.mem_append_right _ hp)
  refine ⟨fun p hp => ?_, ⟨hc c1 o1 (by simp) hofs.o1, hc c2 o2 (by simp) hofs.o2, hc c3 o3 (by simp) hofs.o3, hofs.n12, hofs.n13, hofs.n23⟩, fun b hb p hp => ?_⟩
  · have up : ∀ q ∈ (c3, o3) :: (c2, o2) :: (c1, o1) :: (bl ++ fx), h'.get? q.1 = some q.2 ∧ q.1 ≠ L ∧ h₀.get? q.1 = none := fun q hq => ⟨e _ _ (N q hq).1, (N q hq).2⟩
    simp only [List.mem_cons, List.mem_append] at hp
    rcases hp with rfl | rfl | rfl | hp | rfl | hp
    · exact up _ (by simp)
    · exact up _ (by simp)
    · exact up _ (by simp)
    · exact up p (by simp [hp])
    · exact N2 _ (.head _)
    · exact up p (by simp [hp])
  · simp only [List.mem_cons] at hp
    rcases hp with rfl | rfl | rfl | rfl | hp
    · exact hoffb b hb _ (by simp)
    · exact hoffb b hb _ (by simp)
    · exact hoffb b hb _ (by simp)
    · exact ne b (by simp [hb])
    · exact hoffb b hb p (by simp [hp])
theorem off_o {c1 c2 c3 : Addr} {o1 o2 o3 p1 p2 p3 : Obj} {bl fx : List (Addr × Obj)} (h : ∀ b ∈ bl, Off ((c3, o3) :: (c2, o2) :: (c1, o1) :: fx) b.1) : ∀ b ∈ bl, Off ((c3, p3) :: (c2, p2) :: (c1, p1) :: fx) b.1 := fun b hb p hp => by
  simp only [List.mem_cons] at hp
  rcases hp with rfl | rfl | rfl | hp
  · exact h b hb (c3, o3) (by simp)
  · exact h b hb (c2, o2) (by simp)
  · exact h b hb (c1, o1) (by simp)
  · exact h b hb p (by simp [hp])
def ToldE (P : Params) (h₀ : Heap) (L : Addr) (m : Str → Option Value) (a b c : Addr × Obj) (S : RS) (st : Nat → Bool) (r : List Nat) (fx : List (Addr × Obj)) (s : Shared) (v : Value) (s' : Shared) : Prop :=
  ∃ h' tk nx' pv', v = .ref (S.A (r.headD 0)) ∧ s' = { s with heap := h', toks := tk } ∧ Fr h₀ L h' m ∧ News h₀ L h' (a :: b :: c :: (blk P S st nx' pv' ++ fx)) ∧ Linked nx' pv' r ∧ Maps S.n nx' ∧ Maps S.n pv'
theorem held_told {prog : Program} {w : World} {A : Around} {E : Value → Shared → Prop} {s : Shared} {t : Sem Value} {Q : Value → Shared → Prop} {h₀ : Heap} {L : Addr} {m : Str → Option Value} {a b c : Addr × Obj} {S : RS} {st : Nat → Bool} {nx pv : Nat → Nat} {fx : List (Addr × Obj)} (r : List Nat)
    (F : Fr h₀ L s.heap m) (N : News h₀ L s.heap (a :: b :: c :: (blk w.params S st nx pv ++ fx))) (h : wpAny (model prog w) A t (ToldE w.params h₀ L m a b c S st r fx s) E s)
    (k : ∀ h' tk nx' pv', Fr h₀ L h' m → News h₀ L h' (a :: b :: c :: (blk w.params S st nx' pv' ++ fx)) → Linked nx' pv' r → Maps S.n nx' → Maps S.n pv' → Q (.ref (S.A (r.headD 0))) { s with heap := h', toks := tk }) : wpAny (model prog w) A t Q E s :=
  wpAny_mono h (fun v s' z => by obtain ⟨h', tk, nx', pv', rfl, rfl, h1, h2, h3, h4, h5⟩ := z; exact k h' tk nx' pv' h1 h2 h3 h4 h5) (fun _ _ z => z)
theorem ledger_told {P : Params} {h₀ h h' : Heap} {L : Addr} {a b c : Addr × Obj} {S : RS} {st : Nat → Bool} {nx pv nx' pv' : Nat → Nat} {fx : List (Addr × Obj)} (N : News h₀ L h (a :: b :: c :: (blk P S st nx pv ++ fx))) (hoffb : ∀ q ∈ blk P S st nx pv, Off (a :: b :: c :: fx) q.1)
    (G : GSub h h' ((blk P S st nx pv).map (·.1))) (N' : News h₀ L h' (blk P S st nx' pv')) : News h₀ L h' (a :: b :: c :: (blk P S st nx' pv' ++ fx)) := fun p hp => by
  have up : ∀ q ∈ a :: b :: c :: fx, q ∈ a :: b :: c :: (blk P S st nx pv ++ fx) → h'.get? q.1 = some q.2 ∧ q.1 ≠ L ∧ h₀.get? q.1 = none := fun q hq hq2 => ⟨G _ _ (N q hq2).1 (fun hm => by
    obtain ⟨z, hz, ez⟩ := List.mem_map.mp hm
    exact hoffb z hz q hq ez.symm), (N q hq2).2⟩
  simp only [List.mem_cons, List.mem_append] at hp
  rcases hp with rfl | rfl | rfl | hp | hp
  · exact up _ (by simp) (by simp)
  · exact up _ (by simp) (by simp)
  · exact up _ (by simp) (by simp)
  · exact N' p hp
  · exact up p (by simp [hp]) (by simp [hp])
section
variable {prog : Program} {w : World} {A A₀ : Around} {E : Value → Shared → Prop} {s : Shared} {base h₀ : Heap} {outer : List Env} {env : Env} {L : Addr} {m : Str → Option Value} {p : Program} {loose : List Str} {mean : ExcName → Option Value} {mg mb : Str → Option Value}
  {Q : Value → Shared → Prop} {S : RS} {st : Nat → Bool} {nx pv : Nat → Nat} {a b c : Addr × Obj} {fx : List (Addr × Obj)}
theorem told1 {i fu : Nat} {l r : List Nat} (B : Below A₀ base outer h₀) (F : Fr h₀ L s.heap m) (X : (Mine.hd.heap_39 w.params).In h₀) (T : Top p loose mean mg mb h₀) (N : News h₀ L s.heap (a :: b :: c :: (blk w.params S st nx pv ++ fx))) (hoffb : ∀ q ∈ blk w.params S st nx pv, Off (a :: b :: c :: fx) q.1)
    (hA : A.frames = some (env :: outer)) (hf : env.frame = some L) (hke : env.scope.kind = .function) (hd : A.depth < recursionLimit) (hd1 : A.depth + 1 < recursionLimit) (hu : A.units + 3 < cLine) (hO : S.Ok) (hi : l.headD 0 = i) (G : FG S st r fu l i nx pv)
    (hQ : ∀ h' tk nx' pv', Fr h₀ L h' m → News h₀ L h' (a :: b :: c :: (blk w.params S st nx' pv' ++ fx)) → Linked nx' pv' r → Maps S.n nx' → Maps S.n pv' → Q (.ref (S.A (r.headD 0))) { s with heap := h', toks := tk }) :
    wpAny (model prog w) A (call (.ref 113) [.ref (S.A i)]) Q E s := by
  subst hi
  exact filter_c1 B F X (news_sub N (sub_tail (sub_tail (sub_tail sub_left)))) T hA hf hke hd hd1 hu hO G fun h' tk nx' pv' F' N' G' hl mn mp => hQ h' tk nx' pv' F' (ledger_told N hoffb G' N') hl mn mp
theorem told2 {i e fu : Nat} {l r : List Nat} (B : Below A₀ base outer h₀) (F : Fr h₀ L s.heap m) (X : (Mine.hd.heap_39 w.params).In h₀) (T : Top p loose mean mg mb h₀) (N : News h₀ L s.heap (a :: b :: c :: (blk w.params S st nx pv ++ fx))) (hoffb : ∀ q ∈ blk w.params S st nx pv, Off (a :: b :: c :: fx) q.1)
    (hA : A.frames = some (env :: outer)) (hf : env.frame = some L) (hke : env.scope.kind = .function) (hd : A.depth < recursionLimit) (hd1 : A.depth + 1 < recursionLimit) (hu : A.units + 3 < cLine) (hO : S.Ok) (hi : l.headD 0 = i) (G : FG S st r fu l e nx pv)
    (hQ : ∀ h' tk nx' pv', Fr h₀ L h' m → News h₀ L h' (a :: b :: c :: (blk w.params S st nx' pv' ++ fx)) → Linked nx' pv' r → Maps S.n nx' → Maps S.n pv' → Q (.ref (S.A (r.headD 0))) { s with heap := h', toks := tk }) :
    wpAny (model prog w) A (call (.ref 113) [.ref (S.A i), .ref (S.A e)]) Q E s := by
  subst hi
  exact filter_c2 B F X (news_sub N (sub_tail (sub_tail (sub_tail sub_left)))) T hA hf hke hd hd1 hu hO G fun h' tk nx' pv' F' N' G' hl mn mp => hQ h' tk nx' pv' F' (ledger_told N hoffb G' N') hl mn mp
end
theorem head_lt {r : List Nat} {n : Nat} (hne : r ≠ []) (hr : ∀ k ∈ r, k < n) : r.headD 0 < n := by
  match r, hne, hr with
  | a :: t, _, h => exact h a (.head _)
theorem getD_rot {r : List Nat} {j i : Nat} (hj : j < r.length) (hi : i < r.length) : (r.drop j ++ r.take j).getD i 0 = r.getD ((j + i) % r.length) 0 := by
  have l1 : (r.drop j).length = r.length - j := List.length_drop
  by_cases h : j + i < r.length
  · rw [getD_app_l (by omega), Nat.mod_eq_of_lt h, List.getD_eq_getElem?_getD, List.getElem?_drop, List.getD_eq_getElem?_getD]
  · have e : (j + i) % r.length = j + i - r.length := by
      rw [Nat.mod_eq_sub_mod (by omega), Nat.mod_eq_of_lt (by omega)]
    rw [getD_app_r (by omega), e, l1, List.getD_eq_getElem?_getD, List.getElem?_take_of_lt (by omega), List.getD_eq_getElem?_getD]
    congr 2; omega
theorem lastD_getD (l : List Nat) : l.getLastD 0 = l.getD (l.length - 1) 0 := by
  rw [List.getLastD_eq_getLast?, List.getLast?_eq_getElem?, List.getD_eq_getElem?_getD]
theorem pass_at {x y : Nat → Int} {mk : Nat → Bool} {r : List Nat} {j : Nat} (h : AllPass (RL x y mk) r) (hj : j < r.length) (hm : mk (r.getD j 0) = false) : crossV x y (predD r j) (r.getD j 0) (r.getD ((j + 1) % r.length) 0) ≠ 0 := by
  intro hc
  have hl : (r.drop j ++ r.take j).length = r.length := by simp; omega
  have h1 := h (r.take j) (r.drop j) (List.take_append_drop j r).symm (fun q => by have := congrArg List.length q; simp at this; omega)
  unfold RL at h1
  rw [← getD_head, lastD_getD, hl, getD_rot hj (by omega), getD_rot hj (by omega), getD_rot hj (Nat.mod_lt _ (by omega))] at h1
  have e0 : (j + 0) % r.length = j := Nat.mod_eq_of_lt hj
  have e1 : (j + 1 % r.length) % r.length = (j + 1) % r.length := by rw [Nat.add_mod_mod]
  have e2 : r.getD ((j + (r.length - 1)) % r.length) 0 = predD r j := by
    unfold predD
    by_cases h0 : j = 0
    · subst h0; rw [if_pos rfl, lastD_getD, Nat.mod_eq_of_lt (by omega)]; simp
    · rw [if_neg h0, Nat.mod_eq_sub_mod (by omega), Nat.mod_eq_of_lt (by omega)]
      congr 1; omega
  rw [e0, e1, e2, hm, hc] at h1
  simp at h1
theorem car_len {ys : List Value} {ds : List PyData} (h : CarriedAll ys ds) : ys.length = ds.length := by
  induction h with
  | nil => rfl
  | cons _ _ ih => simp [ih]
theorem down_len {ys : List Value} {r : List Nat} (ha : Asc r) (h : CarriedAll ys (((rangeInts 0 1 r.length).filter fun a => down r a.toNat).map PyData.int)) : ys.length ≤ 1 := by
  have e := car_len h
  rw [List.length_map, rng_ints, List.filter_map, List.length_map] at e
  have : ((fun a : Int => down r a.toNat) ∘ fun j : Nat => ((j : Nat) : Int)) = down r := funext fun j => by simp
  rw [this] at e
  have := one_down ha
  omega
theorem sub_refl {l : List (Addr × Obj)} : ∀ p ∈ l, p ∈ l := fun _ h => h
section
variable {prog : Program} {w : World} {A A₀ : Around} {E : Value → Shared → Prop} {s : Shared} {base h₀ : Heap} {outer : List Env} {env : Env} {L : Addr} {m : Str → Option Value} {p : Program} {loose : List Str} {mean : ExcName → Option Value} {mg mb : Str → Option Value}
  {Q : Value → Shared → Prop}
theorem lawfilt_d {rl ml rg c1 c2 c3 : Addr} {n b stop em fu : Nat} {ro o1 o2 o3 : Obj} {to : Nat → Obj} {t : Nat → Addr} {x y : Nat → Int} {tx ty : Nat → Tok} {mk : Nat → Bool} {r : List Nat} {vs : List Value} {ts : Tok} {rest bl fx : List (Addr × Obj)}
    (B : Below A₀ base outer h₀) (F : Fr h₀ L s.heap m) (X : (Mine.hd.heap_39 w.params).In h₀) (T : Top p loose mean mg mb h₀) (N : News h₀ L s.heap ((rg, lst vs) :: rest)) (ho : Off rest rg)
    (hA : A.frames = some (env :: outer)) (hf : env.frame = some L) (hke : env.scope.kind = .function) (hd : A.depth < recursionLimit) (hd1 : A.depth + 1 < recursionLimit)
    (O : PtsOk ro to n t x y tx ty) (hp : ∀ q ∈ ptsL rl ro n t to, q ∈ rest) (hm : (ml, listOf ((List.range n).map fun k => Value.bool (mk k)).toArray em) ∈ rest) (hcore : ∀ q ∈ (c3, o3) :: (c2, o2) :: (c1, o1) :: (bl ++ fx), q ∈ rest)
    (hofs : Offs (bl ++ fx) c1 c2 c3) (hoffb : ∀ b ∈ bl, Off ((c3, o3) :: (c2, o2) :: (c1, o1) :: fx) b.1) (hn : n ≤ 1000) (hb : b < n) (hv : Nums vs (rot n b)) (run : filtN (RL x y mk) fu (rot n b) stop = some r)
    (hQ : ∀ h' tk a' vs', Fr h₀ L h' m → News h₀ L h' ((c3, o3) :: (c2, o2) :: (c1, o1) :: (bl ++ (a', lst vs') :: fx)) → Offs (bl ++ (a', lst vs') :: fx) c1 c2 c3 → (∀ b ∈ bl, Off ((c3, o3) :: (c2, o2) :: (c1, o1) :: (a', lst vs') :: fx) b.1) → Nums vs' r → Q (.ref a') { s with heap := h', toks := tk }) :
    wpAny (model prog w) A (call (.ref 163) [.ref rl, .ref ml, .ref rg, .int (stop : Int) ts]) Q E s := by
  have N0 : News h₀ L s.heap rest := fun q hq => N q (.tail _ hq)
  refine lawfilt_c B F X (news_one N) T hA hf hke hd hd1 (O.pts (news_sub N0 hp)) (News.isList N0 hm) (fun k hk => ho (t k, to k) (hp _ (.tail _ (List.mem_map.mpr ⟨k, List.mem_range.mpr hk, rfl⟩)))) (ho (rl, ro) (hp _ (.head _))) (ho _ hm) hn (mk_LG hb hn hv run) ?_
  intro h' tk a' vs' F' N' fa e hv'
  obtain ⟨q1, q2, q3⟩ := stage5 (news_sub N0 hcore) hofs hoffb N' e fa
  exact hQ h' tk a' vs' F' q1 q2 q3 hv'
end
def MidE (P : Params) (h₀ : Heap) (L : Addr) (m : Str → Option Value) (a b c : Addr × Obj) (S : RS) (st : Nat → Bool) (r : List Nat) (fx : List (Addr × Obj)) (s : Shared) (v : Flow) (s' : Shared) : Prop :=
  ∃ h' tk nx' pv', v = .next ∧ s' = { s with heap := h', toks := tk } ∧ Fr h₀ L h' m ∧ News h₀ L h' (a :: b :: c :: (blk P S st nx' pv' ++ fx)) ∧ Linked nx' pv' r ∧ Maps S.n nx' ∧ Maps S.n pv'
theorem held_mid {prog : Program} {w : World} {A : Around} {E : Value → Shared → Prop} {s : Shared} {t : Sem Flow} {Q : Flow → Shared → Prop} {h₀ : Heap} {L : Addr} {m : Str → Option Value} {a b c : Addr × Obj} {S : RS} {st : Nat → Bool} {nx pv : Nat → Nat} {fx : List (Addr × Obj)} (r : List Nat)
    (F : Fr h₀ L s.heap m) (N : News h₀ L s.heap (a :: b :: c :: (blk w.params S st nx pv ++ fx))) (h : wpAny (model prog w) A t (MidE w.params h₀ L m a b c S st r fx s) E s)
    (k : ∀ h' tk nx' pv', Fr h₀ L h' m → News h₀ L h' (a :: b :: c :: (blk w.params S st nx' pv' ++ fx)) → Linked nx' pv' r → Maps S.n nx' → Maps S.n pv' → Q .next { s with heap := h', toks := tk }) : wpAny (model prog w) A t Q E s :=
  wpAny_mono h (fun v s' z => by obtain ⟨h', tk, nx', pv', rfl, rfl, h1, h2, h3, h4, h5⟩ := z; exact k h' tk nx' pv' h1 h2 h3 h4 h5) (fun _ _ z => z)
theorem MidE.intro {P : Params} {h₀ : Heap} {L : Addr} {m : Str → Option Value} {a b c : Addr × Obj} {S : RS} {st : Nat → Bool} {nx pv : Nat → Nat} {r : List Nat} {fx : List (Addr × Obj)} {s : Shared} {h' : Heap} {tk : Nat} (F : Fr h₀ L h' m) (N : News h₀ L h' (a :: b :: c :: (blk P S st nx pv ++ fx))) (hl : Linked nx pv r) (mn : Maps S.n nx) (mp : Maps S.n pv) :
    MidE P h₀ L m a b c S st r fx s .next { s with heap := h', toks := tk } := ⟨h', tk, nx, pv, rfl, rfl, F, N, hl, mn, mp⟩
theorem len_any {prog : Program} {w : World} {A : Around} {E : Value → Shared → Prop} {s : Shared} {a : Addr} {ys : List Value} {Q : Value → Shared → Prop} (hl : s.heap.IsList a ys.toArray) (hs : ys.length ≤ 1)
    (h : Q (.int (ys.length : Int) (s.toks + 1)) { s with toks := s.toks + 1 + 1 }) : wpAny (model prog w) A (call (.builtin "len") [.ref a]) Q E s := by
  have e : ys.toArray.size = ys.length := List.size_toArray
  refine len_list hl (by omega) ?_
  rw [e]; exact h
def CoreIs (l : List (Addr × Obj)) : Prop := True
theorem core_is {h₀ h : Heap} {L : Addr} {l : List (Addr × Obj)} (N : News h₀ L h l) : CoreIs l := trivial
theorem news_core {h₀ h : Heap} {L : Addr} {l l' : List (Addr × Obj)} (hc : CoreIs l') (N : News h₀ L h l) (sub : ∀ q ∈ l', q ∈ l) : News h₀ L h l' := news_sub N sub
theorem mod_succ {prog : Program} {w : World} {A : Around} {E : Value → Shared → Prop} {s : Shared} {j n : Nat} {t u : Tok} {Q : Value → Shared → Prop} (hn : 0 < n) (h : Q (.int (((j + 1) % n : Nat) : Int) s.toks) { s with toks := s.toks + 1 }) : wpAny (model prog w) A (binaryOp .Mod (.int ((j : Int) + 1) t) (.int ((n : Nat) : Int) u)) Q E s := by
  refine mod_int' (by omega) ?_
  rw [fmod_cast]; exact h
theorem nums4 (a b c d : Tok) : Nums [.int 0 a, .int 1 b, .int 2 c, .int 3 d] (List.range 4) := .cons 0 a (.cons 1 b (.cons 2 c (.cons 3 d .nil)))
theorem down_int {r : List Nat} {j : Nat} : decide (((r.getD ((j + 1) % r.length) 0 : Nat) : Int) < ((r.getD j 0 : Nat) : Int)) = down r ((j : Nat) : Int).toNat := by
  unfold down
  rw [Int.toNat_natCast, decide_eq_decide]
  omega
end Mine
end
section
set_option maxHeartbeats 20000000
namespace Mine
theorem offT20 : True := by
  w_on
  w_top off
  exact trivial
end Mine
local macro_rules | `(tactic| ktr_unf) => `(tactic| first | with_reducible assumption | exact List.mem_cons_self | (refine List.mem_cons_of_mem _ ?_; ktr_unf) | (refine List.mem_append_right _ ?_; ktr_unf))
local macro_rules | `(tactic| ktr_step) => `(tactic| first | with_reducible assumption | exact Mine.sub_left | exact Mine.sub_refl | (refine Mine.sub_tail ?_; ktr_step) | (refine Mine.sub_right ?_; ktr_step))
local macro_rules | `(tactic| walk_at "binaryOp Add ref ref") => `(tactic| (k_here; k_dflt (refine' Mine.add_more ?F ?X ?N ?ha ?hi ?hl ?hj ?hz ?hm ?_; (case F => k_asm); (case X => k_asm); (case N => k_asm); (case ha => is_list); (case hi => assumption); (case hl => k_is); (case hj => exact .cons _ _ (.cons _ _ (.cons _ _ (.cons _ _ (.cons _ _ (.cons _ _ (.cons _ _ (.cons _ _ (.cons _ _ (.cons _ _ (.cons _ _ (.cons _ _ (.cons _ _ .nil))))))))))))); (case hz => omega); (case hm => exact rfl); k_whole; intro h' c' vs' F' N' i' z1' z2' o1'; (try k_sweep))))
local macro_rules | `(tactic| walk_at "call ref") => `(tactic| ((with_reducible show wpAny _ _ (call (Value.ref 180) _) _ _ _); refine Mine.held ?_))
local macro_rules | `(tactic| walk_at "call ref") => `(tactic| ((with_reducible show wpAny _ _ (call (Value.ref 175) _) _ _ _); refine Mine.held ?_))
local macro_rules | `(tactic| walk_at "storeName") => `(tactic| (k_here; k_dflt (refine' storeX_C ?F ?N ?c ?U ?d ?_ ?a ?b; (case a => rfl); (case b => rfl); (case F => k_asm); (case N => k_asm); (case c => rfl); (case U => first | exact Mine.uf1 (by assumption) | exact Mine.uf2 (by assumption) | exact Mine.uf3 (by assumption) | exact .tail (by assumption) (Mine.uf1 (by assumption)) | exact .tail (by assumption) (Mine.uf2 (by assumption)) | exact .tail (by assumption) (Mine.uf3 (by assumption))); (case d => k_asm); k_whole; intro h' o' F' N' d'; (try dsimp only at N'); (try k_sweep))))
local macro_rules | `(tactic| walk_at "call builtin:len") => `(tactic| (k_here; (with_reducible show wpAny _ _ (call (Value.builtin "len") [Value.ref _]) _ _ _); k_dflt (refine' Mine.len_base ?hl ?hs ?_; (case hl => exact (Mine.PtsOk.pts (by with_reducible assumption) (Mine.news_sub (by k_asm) (by ktr_step))).list); (case hs => omega); k_whole)))
local macro_rules | `(tactic| walk_at "pyIter ref") => `(tactic| refine Mine.held ?_)
local macro_rules | `(tactic| walk_at "subscriptTail") => `(tactic| (k_here; (with_reducible show wpAny _ _ (subscriptTail _ (Expr.Name _ _) (Value.ref _) (Value.int _ _)) _ _ _); k_dflt (refine' Mine.item_fun ?hl ?hk ?hs ?_; (case hl => exact News.isList (by k_asm) (by ktr_unf)); (case hk => first | assumption | omega); (case hs => omega); k_whole)))
local macro_rules | `(tactic| walk_at "setAttr ref") => `(tactic| (k_here; k_dflt (refine' Mine.ring_st3 ?k1 ?k2 ?k3 ?k4 ?kk ?ko ?k6 ?k7 ?k8 ?k9 ?_; (case k1 => k_asm); (case k2 => k_asm); (case k3 => k_asm); (case k4 => k_asm); (case kk => omega); (case ko => assumption); (case k6 => k_is); (case k7 => k_is); (case k8 => k_is); (case k9 => k_is); k_whole; intro h' F' N'; (try k_sweep))))
local macro_rules | `(tactic| walk_at "subscriptTail") => `(tactic| (k_here; (with_reducible show wpAny _ _ (subscriptTail _ (Expr.BinOp _ Operator.Add _ _) (Value.ref _) (Value.int _ _)) _ _ _); k_dflt (refine' Mine.item_int ?hl ?hv ?hk ?hj ?hs ?_; (case hl => exact News.isList (by k_asm) (by ktr_unf)); (case hv => assumption); (case hk => first | exact Mine.ca1 _ | exact Mine.ca2 _ | exact Mine.ca3 _); (case hj => omega); (case hs => assumption); k_whole; intro t')))
local macro_rules | `(tactic| walk_at "binaryOp Mod int int") => `(tactic| (k_here; k_dflt (refine' Mine.mod_nat ?hn ?_; (case hn => first | decide | omega); k_whole; intro b' hb')))
local macro_rules | `(tactic| walk_at "eval IfExp") => `(tactic| refine Mine.held ?_)
local macro_rules | `(tactic| walk_at "call type:list") => `(tactic| (k_here; k_dflt (refine' Mine.list_range ?F ?N ?hh ?hr ?hn ?_; (case hr => assumption); (case F => k_asm); (case N => k_asm); (case hh => exact rfl); (case hn => omega); k_whole; intro h' tk' c' vs' e' F' N' v'; (try k_sweep))))
local macro_rules | `(tactic| walk_at "subscriptTail Name Slice ref ref") => `(tactic| (k_here; (with_reducible show wpAny _ _ (subscriptTail _ (Expr.Slice _ _ _ _) (Value.ref _) (Value.ref _)) _ _ _); k_dflt (refine' Mine.slice_numE ?F ?N ?hm ?hv ?hs ?pl ?pu ?e ?_; (case F => k_asm); (case N => k_asm); (case hm => k_mem); (case hv => assumption); (case hs => simp; omega); (case pl => first | exact .none | exact .int _ _); (case pu => first | exact .none | exact .int _ _); (case e => first | exact Mine.sp_fromN (by assumption) | exact Mine.sp_uptoN (by assumption)); k_whole; intro h' b' F' N' v'; (try k_sweep))))
local macro_rules | `(tactic| walk_at "binaryOp Add ref ref") => `(tactic| (k_here; k_dflt (refine' Mine.add_rot ?F ?N ?h1 ?h2 ?n1 ?n2 ?hn ?_; (case F => k_asm); (case N => k_asm); (case h1 => k_mem); (case h2 => k_mem); (case n1 => assumption); (case n2 => assumption); (case hn => omega); k_whole; intro h' d' vs' F' N' v' o'; (try k_sweep))))
local macro_rules | `(tactic| walk_at "call ref") => `(tactic| ((with_reducible show wpAny _ _ (call (Value.ref 163) _) _ _ _); refine Mine.held ?_))
local macro_rules | `(tactic| walk_at "call ref") => `(tactic| ((with_reducible show wpAny _ _ (call (Value.ref 113) [Value.ref _]) _ _ _); refine Mine.held ?_))
local macro_rules | `(tactic| walk_at "call ref") => `(tactic| ((with_reducible show wpAny _ _ (call (Value.ref 113) [Value.ref _, Value.ref _]) _ _ _); refine Mine.held ?_))
local macro_rules | `(tactic| walk_at "call ref") => `(tactic| ((with_reducible show wpAny _ _ (call (Value.ref 168) _) _ _ _); refine Mine.held ?_))
local macro_rules | `(tactic| walk_at "subscriptTail") => `(tactic| (k_here; (with_reducible show wpAny _ _ (subscriptTail _ (Expr.Constant _ _ _) (Value.ref _) (Value.int _ _)) _ _ _); k_dflt (refine' Mine.item_head ?hl ?hv ?hj ?hs ?_; (case hl => exact News.isList (by k_asm) (by ktr_unf)); (case hv => assumption); (case hj => assumption); (case hs => assumption); k_whole; intro t')))
local macro_rules | `(tactic| walk_at "subscriptTail") => `(tactic| (k_here; (with_reducible show wpAny _ _ (subscriptTail _ (Expr.Subscript _ _ _) (Value.ref _) (Value.int _ _)) _ _ _); k_dflt (refine' Mine.item_fun ?hl ?hk ?hs ?_; (case hl => exact News.isList (by k_asm) (by ktr_unf)); (case hk => first | assumption | omega); (case hs => omega); k_whole)))
local macro_rules | `(tactic| walk_at "compareOp IsNot ref ref") => `(tactic| (k_here; k_dflt (refine' wpAny_isNot_ref_self ?_; k_whole)))
local macro_rules | `(tactic| walk_at "eval ListComp") => `(tactic| refine Mine.held ?_)
local macro_rules | `(tactic| ktr_rel) => `(tactic| first | with_reducible assumption | omega | exact Mine.getD_lt (by with_reducible assumption) (by with_reducible assumption) | exact Mine.predD_lt (by with_reducible assumption) (by with_reducible assumption) | exact Mine.getD_lt (by with_reducible assumption) (Nat.mod_lt _ (by with_reducible assumption)))
local macro_rules | `(tactic| walk_at "eval Name") => `(tactic| (k_here; k_inBlock; k_dflt (refine' Mine.cname_b ?F ?X ?T ?e ?v ?n ?_ ?a ?b ?c ?d ?f; (case F => k_asm); (case a => rfl); (case b => rfl); (case c => rfl); (case d => rfl); (case f => decide); (case X => k_asm); (case e => k_is); (case T => k_asm); (case v => boot_fast); (case n => decide); k_whole)))
local macro_rules | `(tactic| walk_at "eval Name") => `(tactic| (k_here; k_inBlock; k_dflt (refine' Mine.cname_c ?N ?c ?m ?o ?_ ?a ?b ?d; (case a => rfl); (case b => rfl); (case d => decide); (case N => k_asm); (case c => rfl); (case m => k_mem); (case o => assumption); k_whole)))
local macro_rules | `(tactic| walk_at "eval Name") => `(tactic| (k_here; k_inBlock; k_dflt (refine' Mine.cname_l ?n ?m ?_ ?a ?b ?d; (case a => rfl); (case b => rfl); (case d => decide); (case n => assumption); (case m => assumption); k_whole)))
local macro_rules | `(tactic| walk_at "subscriptTail") => `(tactic| (k_here; (with_reducible show wpAny _ _ (subscriptTail _ (Expr.Name _ _) (Value.ref _) (Value.int _ _)) _ _ _); k_dflt (refine' Mine.item_num ?hl ?hv ?hk ?hj ?hs ?_; (case hl => exact News.isList (by k_asm) (by ktr_unf)); (case hv => assumption); (case hk => exact rfl); (case hj => with_reducible assumption); (case hs => with_reducible assumption); k_whole; intro t')))
local macro_rules | `(tactic| walk_at "subscriptTail") => `(tactic| (k_here; (with_reducible show wpAny _ _ (subscriptTail _ (Expr.BinOp _ Operator.Mod _ _) (Value.ref _) (Value.int _ _)) _ _ _); k_dflt (refine' Mine.item_num ?hl ?hv ?hk ?hj ?hs ?_; (case hl => exact News.isList (by k_asm) (by ktr_unf)); (case hv => assumption); (case hk => exact rfl); (case hj => exact Nat.mod_lt _ (by with_reducible assumption)); (case hs => with_reducible assumption); k_whole; intro t')))
local macro_rules | `(tactic| walk_at "subscriptTail") => `(tactic| (k_here; (with_reducible show wpAny _ _ (subscriptTail _ (Expr.BinOp _ Operator.Sub _ _) (Value.ref _) (Value.int _ _)) _ _ _); k_dflt (refine' Mine.item_pred ?hl ?hv ?hj ?hs ?_; (case hl => exact News.isList (by k_asm) (by ktr_unf)); (case hv => assumption); (case hj => with_reducible assumption); (case hs => with_reducible assumption); k_whole; intro t')))
local macro_rules | `(tactic| walk_at "subscriptTail") => `(tactic| (k_here; (with_reducible show wpAny _ _ (subscriptTail _ (Expr.Subscript _ _ _) (Value.ref _) (Value.int _ _)) _ _ _); k_dflt (refine' Mine.item_fun ?hl ?hk ?hs ?_; (case hl => first | exact News.isList (by k_asm) (by ktr_unf) | exact (Mine.PtsOk.pts (by with_reducible assumption) (Mine.news_sub (by k_asm) (by ktr_step))).list); (case hk => ktr_rel); (case hs => omega); k_whole)))
local macro_rules | `(tactic| walk_at "binaryOp Mod int int") => `(tactic| (k_here; (with_reducible show wpAny _ _ (binaryOp Operator.Mod (Value.int ((_ : Int) + 1) _) (Value.int _ _)) _ _ _); k_dflt (refine' Mine.mod_succ ?hn ?_; (case hn => with_reducible assumption); k_whole)))
local macro_rules | `(tactic| walk_at "compareOp NotIn int ref") => `(tactic| (k_here; k_dflt (refine' Mine.notin_num ?hl ?hv ?_; (case hl => exact News.isList (by k_asm) (by ktr_unf)); (case hv => assumption); k_whole)))
local macro_rules | `(tactic| walk_at "compareOp NotEq ref ref") => `(tactic| (k_here; k_dflt (refine' Mine.ne_empty ?k1 ?k2 ?k3 ?_; (case k1 => exact News.isList (by k_asm) (by k_mem)); (case k2 => exact News.isList (by k_asm) (by k_mem)); (case k3 => exact Nat.le_of_ble_eq_true rfl); k_whole)))
local macro_rules | `(tactic| walk_at "compareOp Eq ref ref") => `(tactic| (k_here; k_dflt (refine' Mine.eq_empty ?k1 ?k2 ?k3 ?_; (case k1 => exact News.isList (by k_asm) (by k_mem)); (case k2 => exact News.isList (by k_asm) (by k_mem)); (case k3 => exact Nat.le_of_ble_eq_true rfl); k_whole)))
local macro_rules | `(tactic| walk_at "call builtin:len") => `(tactic| (k_here; (with_reducible show wpAny _ _ (call (Value.builtin "len") [Value.ref _]) _ _ _); k_dflt (refine' Mine.len_any ?hl ?hs ?_; (case hl => exact News.isList (by k_asm) (by k_mem)); (case hs => with_reducible assumption); k_whole)))
local macro_rules | `(tactic| walk_at "call builtin:len") => `(tactic| (k_here; (with_reducible show wpAny _ _ (call (Value.builtin "len") [Value.ref _]) _ _ _); k_dflt (refine' Mine.len_num ?hl ?hv ?hs ?_; (case hl => exact News.isList (by k_asm) (by ktr_unf)); (case hv => assumption); (case hs => assumption); k_whole)))
local macro_rules | `(tactic| walk_at "exec If") => `(tactic| ((with_reducible show wpAny _ _ (exec (Stmt.If (Expr.Compare _ [CmpOp.Lt] _ _) _ _ _) _) _ _ _); refine Mine.held ?_))
local macro_rules | `(tactic| walk_at "call ref") => `(tactic| (k_here; (with_reducible show wpAny _ _ (call (Value.ref 156) _) _ _ _); k_dflt (refine' Mine.cross_c ?B ?F ?X ?T ?hA ?hf ?hke ?hd ?hR ?hi ?hj ?hk ?_; (case B => k_asm); (case F => k_asm); (case X => k_asm); (case T => k_asm); (case hA => exact rfl); (case hf => exact rfl); (case hke => exact rfl); (case hd => k_room); (case hR => exact Mine.PtsOk.pts (by with_reducible assumption) (Mine.news_sub (by k_asm) (by ktr_step))); (case hi => ktr_rel); (case hj => ktr_rel); (case hk => ktr_rel); k_whole; intro h' tk' tk2' F' e'; (have N' := News.grown (by assumption) e'); (try k_sweep))))
theorem Mine.whole : PySem.Challenge.rw_et5010_01.Holds := by
  refine Mine.hd ?_
  k_go0
  all_goals try k_fold
  k_steps
  rename News _ _ _ (_ :: _) => N1
  rename Fr _ _ _ _ => F1
  rename IntsAre _ (_ ++ _) => hi1
  rename 13 ≤ List.length _ => hz13
  rename List.length _ ≤ 1000 => hz1000
  rename Mine.Off _ _ => hoff1
  rename Below _ _ _ _ => K0
  rename Frag.In _ _ => KX
  rename Top _ _ _ _ _ _ => T0
  unfold Mine.Held
  refine Mine.draw_c K0 F1 KX T0 N1 rfl rfl rfl (by k_room) rfl (.head _) hi1 hz13 hz1000 ?_
  intro h2 tk2 tp rl ml ro t to x y tx ty mk n em O hn1 hn9 F2 N2 hdis
  obtain ⟨rest, N3, hofs, htp1, htp2, htp3, hnum, hml, hpts⟩ := Mine.stage1 N2 hdis hoff1 (neN (by omega)) (neN (by omega)) (neN (by omega))
  clear N1 F1 N2 hdis
  k_steps
  rename News _ _ _ (_ :: _) => N4
  rename Fr _ _ _ _ => F3
  unfold Mine.Held
  refine Mine.linked_c K0 F3 KX T0 rfl rfl rfl (by k_room) rfl (O.pts (Mine.news_sub N4 (Mine.sub_tail (Mine.sub_tail (Mine.sub_tail (Mine.sub_tail hpts)))))) (by omega) ?_
  intro h3 tk3 S ma em2 hSn hSxy hSO F4 N5 e3 fma fblk
  obtain ⟨fx, N6, hofs2, hma, hfx, hoffb⟩ := Mine.stage2 N4 hofs N5 e3 fma fblk
  have hnum2 := hfx _ hnum
  have hml2 := hfx _ hml
  have hpts2 := fun q hq => hfx q (hpts q hq)
  clear N4 F3 N5 hofs fblk fma e3 hfx
  k_steps
  rename IsRange _ _ _ _ _ _ _ _ => hrng
  rename News _ _ _ (_ :: _) => N7
  rename Fr _ _ _ _ => F5
  unfold Mine.Held
  refine Mine.rng_loop3 (Str.ofString "node") (fun i st => ∀ j, st j = (mk j && decide (j < i))) rfl hrng (by omega) F5 N7 hSn hoffb (fun j => by simp) ?_ ?_
  · clear F5 N7
    intro i ti u st h4 tk4 fx' hi hst hfx' hoD F6 N8
    have hma3 := hfx' _ hma
    have hml3 := hfx' _ hml2
    k_steps
    · refine Mine.TurnS.intro _ (by assumption) (by assumption) (fun z h1 h2 => by show (if z = _ then _ else if z = _ then _ else if z = _ then _ else _) = _; rw [if_neg h2, if_neg h1, if_neg h2]) (fun j => ?_)
      by_cases hj : j = i
      · rename mk i = true => hmk
        rw [hj, Mine.updB_self, hmk, decide_eq_true (Nat.lt_succ_self i)]; rfl
      · rw [Mine.updB_ne hj, hst j]
        congr 1
        rw [decide_eq_decide]; omega
    · refine Mine.TurnS.intro _ (by assumption) (by assumption) (fun z h1 h2 => by show (if z = _ then _ else if z = _ then _ else _) = _; rw [if_neg h1, if_neg h2]) (fun j => ?_)
      rename mk i = false => hmk
      rw [hst j]
      by_cases hj : j = i
      · rw [hj, hmk]; rfl
      · congr 1
        rw [decide_eq_decide]; omega
  · clear F5 N7
    intro u u' st h4 tk4 hst F6 N8
    dsimp only
    k_steps
    rename News _ _ _ (_ :: _ :: _ :: _ :: _ :: _) => N9
    rename Fr _ _ _ _ => F7
    have hst2 : ∀ j, j < n → st j = mk j := fun j hj => by rw [hst j, decide_eq_true hj, Bool.and_true]
    obtain ⟨t4, x4, y4, tx4, ty4, P4⟩ := Mine.pts4 N9 (by decide) (by decide) (by decide) (by decide)
    unfold Mine.Held
    refine Mine.linked_c K0 F7 KX T0 rfl rfl rfl (by k_room) rfl P4 (by decide) ?_
    intro h5 tk5 S2 mb em3 hS2n hS2xy hS2O F8 N10 e5 fmb fb2
    obtain ⟨fx2, N11, hofs3, hmb, hfx2, hbl2, hoffb2⟩ := Mine.stage3 N9 (Mine.offs_st st (Mine.rN n) (Mine.rP n) hofs2) (Mine.offb_st st (Mine.rN n) (Mine.rP n) hoffb) N10 e5 fmb fb2
    have hnum3 := hfx2 _ hnum2
    have hml4 := hfx2 _ hml2
    have hma4 := hfx2 _ hma
    have hpts3 := fun q hq => hfx2 q (hpts2 q hq)
    clear N9 F7 N10 e5 fmb fb2 hofs2 hoffb hfx2 P4
    have hmaS : (ma, listOf ((List.range S.n).map fun k => Value.ref (S.A k)).toArray em2) ∈ fx2 := by rw [hSn]; exact hma4
    have hmbS : (mb, listOf ((List.range S2.n).map fun k => Value.ref (S2.A k)).toArray em3) ∈ fx2 := by rw [hS2n]; exact hmb
    clear hma4 hma hml2 hnum2 hpts2 hst hmb
    k_steps
    rename _ < n => hb0
    rename _ < 3 => hk3
    unfold Mine.Held
    refine Mine.held_pick hb0 hk3 ?_ ?_
    · with_reducible refine IfExp_ ?_
      k_steps
      · exact ⟨_, _, _, rfl, hb0, fun _ => rfl, rfl⟩
      · rename _ < n => he9
        rename ¬ _ => hn9
        exact ⟨_, _, _, rfl, he9, fun h => absurd h (by omega), rfl⟩
    intro e5 tke te he hke
    k_steps
    rename Mine.Nums _ (_ ++ _) => hv5
    rename Mine.Off _ _ => ho5
    rename News _ _ _ (_ :: _) => N12
    rename Fr _ _ _ _ => F9
    unfold Mine.Held
    obtain ⟨fu, r, run, hr0, hr1, hr2, hr3, hr4, hr5, hr6⟩ := Mine.law_run (x := x) (y := y) (mk := mk) hb0 he
    have hr7 : r.length ≤ 1000 := by omega
    have hr8 : r.headD 0 < n := Mine.head_lt hr0 hr2
    have hr9 : ∀ k ∈ r, k < S.n := fun k hk => by rw [hSn]; exact hr2 k hk
    refine Mine.lawfilt_d K0 F9 KX T0 N12 ho5 rfl rfl rfl (by k_room) (by k_room) O (by ktr_step) (by ktr_unf) (by ktr_step) hofs3 hoffb2 (by omega) hb0 hv5 run ?_
    intro h6 tk6 a6 vs6 F10 N13 hofs4 hoffb3 hv6
    clear N12 F9 ho5 hv5 hofs3 hoffb2
    k_steps
    rename News _ _ _ (_ :: _) => N14
    rename Fr _ _ _ _ => F11
    unfold Mine.Held
    have G := Mine.mk_FG hSn hSxy hst2 hb0 he run
    refine Mine.held_told r F11 N14 ?_ ?_
    · with_reducible refine IfExp_ ?_
      k_steps
      · rename (_ : Int) = 0 => hk0
        have heb := hke (by omega)
        have G2 := G
        rw [heb] at G2
        unfold Mine.Held
        refine Mine.told1 K0 F11 KX T0 N14 (Mine.off_o hoffb3) rfl rfl rfl (by k_room) (by k_room) (by exact Nat.le_of_ble_eq_true rfl) hSO (Mine.rot_head hb0) G2 ?_
        intro h' tk' nx' pv' q1 q2 q3 q4 q5
        exact ⟨h', tk', nx', pv', rfl, rfl, q1, q2, q3, q4, q5⟩
      · unfold Mine.Held
        refine Mine.told2 K0 F11 KX T0 N14 (Mine.off_o hoffb3) rfl rfl rfl (by k_room) (by k_room) (by exact Nat.le_of_ble_eq_true rfl) hSO (Mine.rot_head hb0) G ?_
        intro h' tk' nx' pv' q1 q2 q3 q4 q5
        exact ⟨h', tk', nx', pv', rfl, rfl, q1, q2, q3, q4, q5⟩
    intro h7 tk7 nx7 pv7 F13 N16 hl7 mn7 mp7
    clear N14 F11
    k_steps
    rename News _ _ _ (_ :: _) => N17
    rename Fr _ _ _ _ => F14
    unfold Mine.Held
    refine Mine.links_c K0 F14 KX N17 T0 rfl rfl rfl (by k_room) (by k_room) rfl (by exact Nat.le_of_ble_eq_true rfl) (by ktr_step) (by ktr_unf) (by ktr_unf) hv6 hr9 hr7 (by omega) hSO mn7 mp7 hl7 ?_
    intro h8 tk8 F15 N18
    clear N17 F14
    have hc1 := Mine.core_is N18
    k_steps
    rename Fr _ _ _ _ => F16
    rename News _ _ _ (_ :: _) => N19
    unfold Mine.Held
    refine' Mine.comp_rng (fun _ => false) PyData.int F16 ?hh ?hclos ?hcell ?hkind ?hnames ?hx ?h ?hs
    (case hh => exact rfl)
    (case hclos => with_unfolding_all rfl)
    (case hcell => decide)
    (case hkind => with_unfolding_all rfl)
    (case hnames => decide)
    (case hx => with_unfolding_all rfl)
    (case hs => intro _; with_unfolding_all rfl)
    k_steps
    rename IsRange _ _ _ _ _ _ _ _ => hrng2
    rename Fr _ _ _ _ => F17
    rename News _ _ _ (_ :: _) => N20
    unfold Mine.Held
    refine ⟨_, _, _, _, _, _, _, _, n, rfl, hrng2, Mine.rng_small (by omega), Mine.rng_size, (by rw [sizeLine_eq]; omega), F17, N20, ?_, ?_, ?_⟩
    · intro C a v s₂ m₂ E' hC ha hva hNs hm2 keep
      obtain ⟨j, hj, rfl⟩ := Mine.rng_mem ha
      obtain ⟨ta, rfl⟩ := hva
      have F18 := F17.keeps keep
      have N21 := N20.grown keep
      clear F17 N20
      k_steps
      all_goals first
        | exact ⟨_, _, rfl, fun _ _ h => h⟩
        | (exfalso
           rename mk j = true => hm
           have hin := hr5 j hj hm
           first
             | contradiction
             | (rename decide (j ∈ r) = false => hd; rw [decide_eq_true hin] at hd; cases hd)
             | (rename (!decide (j ∈ r)) = true => hd; rw [decide_eq_true hin] at hd; cases hd)
             | omega)
    · intro C a v s₂ m₂ E' hC ha hva hp
      cases hp
    intro D ys h9 tk9 F18 N21 hD hl hpl hcar
    rw [Mine.filter_none (fun _ _ => rfl)] at hcar
    obtain rfl := Mine.car_empty hcar
    obtain ⟨nD, N22⟩ := Mine.news_add F18 N21 hD hpl
    clear F17 N20 N21 hpl hl
    k_steps
    rename Fr _ _ _ _ => F19
    rename News _ _ _ (_ :: _) => N23
    unfold Mine.Held
    refine' Mine.comp_rng (fun a => Mine.down r a.toNat) PyData.int F19 ?hh ?hclos ?hcell ?hkind ?hnames ?hx ?h ?hs
    (case hh => exact rfl)
    (case hclos => with_unfolding_all rfl)
    (case hcell => decide)
    (case hkind => with_unfolding_all rfl)
    (case hnames => decide)
    (case hx => with_unfolding_all rfl)
    (case hs => intro _; with_unfolding_all rfl)
    k_steps
    rename IsRange _ _ _ _ _ _ _ _ => hrng3
    rename Fr _ _ _ _ => F20
    rename News _ _ _ (_ :: _) => N24
    unfold Mine.Held
    refine ⟨_, _, _, _, _, _, _, _, r.length, rfl, hrng3, Mine.rng_small hr7, Mine.rng_size, (by rw [sizeLine_eq]; omega), F20, N24, ?_, ?_, ?_⟩
    · intro C a v s₂ m₂ E' hC ha hva hNs hm2 keep
      obtain ⟨j, hj, rfl⟩ := Mine.rng_mem ha
      obtain ⟨ta, rfl⟩ := hva
      have F21 := F20.keeps keep
      have N25 := N24.grown keep
      have hpos : 0 < r.length := Nat.lt_of_le_of_lt (Nat.zero_le _) hj
      clear F20 N24
      k_steps
      all_goals first
        | exact ⟨_, _, rfl, fun _ _ h => h⟩
        | exact Mine.down_int
        | exact ⟨Mine.down_int, _, _, rfl, fun _ _ h => h⟩
    · intro C a v s₂ m₂ E' hC ha hva hp hNs hm2 keep
      obtain ⟨j, hj, rfl⟩ := Mine.rng_mem ha
      obtain ⟨ta, rfl⟩ := hva
      have F21 := F20.keeps keep
      have N25 := N24.grown keep
      clear F20 N24
      k_steps
      all_goals first
        | exact ⟨_, _, rfl, fun _ _ h => h⟩
        | exact .int _ _
        | exact ⟨.int _ _, _, _, rfl, fun _ _ h => h⟩
    intro D2 ys2 h10 tk10 F21 N25 hD2 hl2 hpl2 hcar2
    have hys := Mine.down_len hr4 hcar2
    obtain ⟨nD2, N26⟩ := Mine.news_add F21 N25 hD2 hpl2
    clear F20 N24 N25 hpl2 hl2 hcar2
    k_steps
    rename Fr _ _ _ _ => F22
    rename News _ _ _ (_ :: _) => N27
    unfold Mine.Held
    have N28 := Mine.news_core hc1 N27 (by ktr_step)
    clear N27
    refine Mine.held_mid r F22 N28 ?_ ?_
    · refine wpAny_If ?_
      k_steps
      · unfold Mine.Held
        rename Fr _ _ _ _ => F23
        rename News _ _ _ (_ :: _) => N29
        refine' Mine.comp_rng (fun _ => false) PyData.int F23 ?hh ?hclos ?hcell ?hkind ?hnames ?hx ?h ?hs
        (case hh => exact rfl)
        (case hclos => with_unfolding_all rfl)
        (case hcell => decide)
        (case hkind => with_unfolding_all rfl)
        (case hnames => decide)
        (case hx => with_unfolding_all rfl)
        (case hs => intro _; with_unfolding_all rfl)
        k_steps
        rename IsRange _ _ _ _ _ _ _ _ => hrng4
        rename Fr _ _ _ _ => F28
        rename News _ _ _ (_ :: _) => N34
        unfold Mine.Held
        refine ⟨_, _, _, _, _, _, _, _, r.length, rfl, hrng4, Mine.rng_small hr7, Mine.rng_size, (by rw [sizeLine_eq]; omega), F28, N34, ?_, ?_, ?_⟩
        · intro C a v s₂ m₂ E' hC ha hva hNs hm2 keep
          obtain ⟨j, hj, rfl⟩ := Mine.rng_mem ha
          obtain ⟨ta, rfl⟩ := hva
          have F37 := F28.keeps keep
          have N38 := N34.grown keep
          have hpos : 0 < r.length := Nat.lt_of_le_of_lt (Nat.zero_le _) hj
          have hAll := (hr6 (hke (by omega))).resolve_left (by omega)
          clear F28 N34
          k_steps
          all_goals first
            | exact ⟨_, _, rfl, fun _ _ h => h⟩
            | exact ⟨_, _, rfl, by assumption⟩
            | (exfalso; rename mk _ = false => hm; rename Mine.crossV _ _ _ _ _ = 0 => hc; exact Mine.pass_at hAll hj hm hc)
        · intro C a v s₂ m₂ E' hC ha hva hp
          cases hp
        intro D ys h9 tk9 F35 N35 hD hl hpl hcar
        rw [Mine.filter_none (fun _ _ => rfl)] at hcar
        obtain rfl := Mine.car_empty hcar
        obtain ⟨nD, N36⟩ := Mine.news_add F35 N35 hD hpl
        clear F28 N34 N35 hpl hl
        k_steps
        rename Fr _ _ _ _ => F25
        rename News _ _ _ (_ :: _) => N30
        unfold Mine.Held
        obtain ⟨fu2, G3⟩ := Mine.mk_FG2 hSn hSxy hst2 hr0 hr1 hr2 hl7 mn7 mp7 (hr6 (hke (by omega)))
        have N31 := Mine.news_core hc1 N30 (by ktr_step)
        refine Mine.told1 K0 F25 KX T0 N31 (Mine.offb_st st nx7 pv7 (Mine.off_o hoffb3)) rfl rfl rfl (by k_room) (by k_room) (by exact Nat.le_of_ble_eq_true rfl) hSO rfl G3 ?_
        intro h' tk' nx' pv' q1 q2 q3 q4 q5
        clear N30 N31 F25
        k_steps
        rename Fr _ _ _ _ => F26
        rename News _ _ _ (_ :: _) => N32
        unfold Mine.Held
        refine Mine.links_c K0 F26 KX N32 T0 rfl rfl rfl (by k_room) (by k_room) rfl (by exact Nat.le_of_ble_eq_true rfl) (by ktr_step) (by ktr_unf) (by ktr_unf) hv6 hr9 hr7 (by omega) hSO q4 q5 q3 ?_
        intro h'' tk'' F27 N33
        clear N32 F26
        k_steps
        exact Mine.MidE.intro (by assumption) (by assumption) q3 q4 q5
      · rename Fr _ _ _ _ => F25
        rename News _ _ _ (_ :: _) => N30
        unfold Mine.Held
        obtain ⟨fu2, G3⟩ := Mine.mk_FG2 hSn hSxy hst2 hr0 hr1 hr2 hl7 mn7 mp7 (hr6 (hke (by omega)))
        have N31 := Mine.news_core hc1 N30 (by ktr_step)
        refine Mine.told1 K0 F25 KX T0 N31 (Mine.offb_st st nx7 pv7 (Mine.off_o hoffb3)) rfl rfl rfl (by k_room) (by k_room) (by exact Nat.le_of_ble_eq_true rfl) hSO rfl G3 ?_
        intro h' tk' nx' pv' q1 q2 q3 q4 q5
        clear N30 N31 F25
        k_steps
        rename Fr _ _ _ _ => F26
        rename News _ _ _ (_ :: _) => N32
        unfold Mine.Held
        refine Mine.links_c K0 F26 KX N32 T0 rfl rfl rfl (by k_room) (by k_room) rfl (by exact Nat.le_of_ble_eq_true rfl) (by ktr_step) (by ktr_unf) (by ktr_unf) hv6 hr9 hr7 (by omega) hSO q4 q5 q3 ?_
        intro h'' tk'' F27 N33
        clear N32 F26
        k_steps
        exact Mine.MidE.intro (by assumption) (by assumption) q3 q4 q5
      · exact Mine.MidE.intro F22 N28 hl7 mn7 mp7
    clear F22 N28 hl7 mn7 mp7
    intro h11 tk11 nx8 pv8 F23 N29 hl8 mn8 mp8
    k_steps
    rename Fr _ _ _ _ => F36
    rename News _ _ _ (_ :: _) => N37
    unfold Mine.Held
    refine Mine.links_c (S := S2) (st := fun _ => false) (nx := Mine.rN 4) (pv := Mine.rP 4) K0 F36 KX N37 T0 rfl rfl rfl (by k_room) (by k_room) rfl (by exact Nat.le_of_ble_eq_true rfl) (by ktr_step) (by ktr_unf) (by k_mem) (Mine.nums4 _ _ _ _) (fun k hk => by rw [hS2n]; exact List.mem_range.mp hk) (by decide) (by omega) hS2O (by rw [hS2n]; exact Mine.rN_maps 4) (by rw [hS2n]; exact Mine.rP_maps 4) (Mine.linked_range (by decide)) ?_
    intro h12 tk12 F39 N39
    clear N37 F36
    k_steps
end
theorem PySem.Challenge.cw_et5010_01_holds : PySem.Challenge.rw_et5010_01.Holds := by
  exact Mine.whole
