/- FnGjObjectPath answers true: of a path of keys the first component is the first key's characters, behind a dot there is more, behind a pipe what the pipe leads on to. The plain law: no memory, no program. -/
import Derived.Test.YtnpkgjoiencbiaaGreatDoorMOPx4
namespace Go.Proofs.YtnpkgjoiencbiaaGreatDoor.MOP
open Go.RowKit Go.Proofs.YtnpkgjoiencbiaaGreatDoorW.PrintWords

theorem w64 {x : Int} (h0 : 0 ≤ x) (h : x < 9223372036854775807) : wrap64 (x + 1) = x + 1 := by unfold wrap64; omega
theorem w64m {x : Int} (h0 : 0 ≤ x) (h : x < 9223372036854775807) : wrap64 (x - 1) = x - 1 := by unfold wrap64; omega

def toI (c : UInt8) : Int := (c.toNat : Int)
theorem toI_range (c : UInt8) : 0 ≤ toI c ∧ toI c ≤ 255 := by unfold toI; have := c.toNat_lt; omega
theorem toI_inj {a b : UInt8} (h : toI a = toI b) : a = b := by unfold toI at h; exact UInt8.toNat_inj.1 (by omega)
def ML (l : List UInt8) : ByteArray := ⟨l.toArray⟩
theorem ML_size (l : List UInt8) : (ML l).size = l.length := by simp [ML, ByteArray.size]
theorem ML_data (s : ByteArray) : ML s.data.toList = s := by obtain ⟨⟨l⟩⟩ := s; rfl
theorem ML_list (l : List UInt8) : (ML l).data.toList = l := rfl
theorem ML_toList (l : List UInt8) : (ML l).toList = l := by rw [ByteArray.toList_eq]; rfl
theorem ML_extract (l : List UInt8) (a b : Nat) : (ML l).extract a b = ML ((l.drop a).take (b - a)) := ByteArray.extract_mk l a b
theorem ML_upto (A B : List UInt8) : (ML (A ++ B)).extract 0 A.length = ML A := by rw [ML_extract]; simp
theorem ML_from (A B : List UInt8) (n : Nat) (hn : n = (A ++ B).length) : (ML (A ++ B)).extract A.length n = ML B := by subst hn; rw [ML_extract]; simp
theorem ML_append (A B : List UInt8) : ML A ++ ML B = ML (A ++ B) := by
  have h : (ML A ++ ML B).data.toList = A ++ B := by simp [ML]
  rw [← ML_data (ML A ++ ML B), h]
theorem bt_ML (A B : List UInt8) (c : UInt8) : bt (ML (A ++ c :: B)) (A.length : Int) = toI c := by
  unfold bt
  rw [dif_pos (by rw [ML_size]; simp)]
  simp [ML, toI, ByteArray.getElem_eq_getElem_data]
theorem str_ML (l : List UInt8) : strOfNums (l.map toI) = ML l := by
  unfold strOfNums ML toI
  congr 2
  rw [List.map_map]
  conv => rhs; rw [← List.map_id l]
  apply List.map_congr_left
  intro c _
  simp
theorem bytesOf_ML (l : List UInt8) : bytesOf (ML l) = l.map toI := rfl

theorem letter_some (c : Int) : ∃ b, spec_letter.f c = some b := by
  unfold spec_letter.f
  repeat' split
  all_goals exact ⟨_, rfl⟩
theorem path_some (c : Int) : ∃ b, spec_pathByte.f c = some b := by
  unfold spec_pathByte.f
  obtain ⟨b, hb⟩ := letter_some c
  rw [hb]
  simp only [Option.bind_some]
  repeat' split
  all_goals exact ⟨_, rfl⟩
def pb (c : UInt8) : Bool := (spec_pathByte.f (toI c)).getD false
theorem pb_eq (c : UInt8) : spec_pathByte.f (toI c) = some (pb c) := by obtain ⟨b, hb⟩ := path_some (toI c); unfold pb; rw [hb]; rfl
theorem pb_no : pb 46 = false ∧ pb 124 = false ∧ pb 42 = false ∧ pb 63 = false ∧ pb 92 = false ∧ pb 64 = false ∧ pb 91 = false ∧ pb 123 = false := by decide
theorem ne_of_pb {c d : UInt8} (hd : pb d = false) (hc : pb c = true) : ¬ toI c = toI d := fun h => by rw [toI_inj h, hd] at hc; exact absurd hc (by decide)
def esc1 (c : UInt8) : List UInt8 := if pb c then [c] else [92, c]
def esc (l : List UInt8) : List UInt8 := l.flatMap esc1
theorem esc_cons (c : UInt8) (l : List UInt8) : esc (c :: l) = esc1 c ++ esc l := rfl
theorem esc_len (l : List UInt8) : (esc l).length ≤ 2 * l.length := by
  induction l with
  | nil => simp [esc]
  | cons c l ih => rw [esc_cons, List.length_append, List.length_cons]; unfold esc1; split <;> simp <;> omega

theorem rd_map (ks : List (List UInt8)) (i : Nat) (hi : i < ks.length) : rdOf ByteArray.empty (ks.map ML) (i : Int) = ML ks[i] := by
  simp [rdOf, List.getD_eq_getElem?_getD, hi]

theorem _root_.Go.Proofs.YtnpkgjoiencbiaaGreatDoorW.PrintWords.Ev.up {α : Type} {g : Nat → Option α} {r : α} (h : Ev (fun k => g (k + 1)) r) : Ev g r := Ev.step (fun _ => rfl) h

/-! PathOf -/
theorem PathOf_l1 (keys : List ByteArray) (n i : Int) (R : ByteArray) : ∀ (B A : List UInt8) (acc : List Int), acc.length + 2 * B.length ≤ 140737488355327 → A.length + B.length ≤ 140737488355327 →
    Ev (fun k => spec_PathOf.l0 k (acc ++ (esc B).map toI) keys n (wrap64 (i + 1))) R → Ev (fun k => spec_PathOf.l1 k acc (ML (A ++ B)) (A.length : Int) keys n i) R
  | [], A, acc, _, _, h => by
    refine Ev.step (fun k => ?_) h
    simp only [spec_PathOf.l1]
    rw [if_neg (by rw [ML_size]; simp)]
    simp [esc]
  | c :: B, A, acc, hb, hl, h => by
    simp only [List.length_cons] at hb hl
    have ih := fun acc' hb' h' => PathOf_l1 keys n i R B (A ++ [c]) acc' hb' (by simp; omega) h'
    simp only [List.append_assoc, List.singleton_append, List.length_append, List.length_singleton] at ih
    refine Ev.step (f := fun k => spec_PathOf.l1 k (acc ++ (esc1 c).map toI) (ML (A ++ c :: B)) ((A.length + 1 : Nat) : Int) keys n i) (fun k => ?_) ?_
    · simp only [spec_PathOf.l1]
      rw [if_pos (by rw [ML_size]; simp <;> omega), if_pos (by omega), bt_ML, pb_eq]
      simp only [Option.bind_some]
      rw [w64 (by omega) (by omega)]
      cases hp : pb c
      · have e : (esc1 c).map toI = [92] ++ [toI c] := by unfold esc1; rw [hp]; rfl
        rw [if_neg (by decide), if_pos (by omega), if_pos (by simp; omega), e, List.append_assoc]
        rfl
      · have e : (esc1 c).map toI = [toI c] := by unfold esc1; rw [hp]; rfl
        rw [if_pos rfl, if_pos (by omega), e]
        rfl
    · refine ih (acc ++ (esc1 c).map toI) ?_ ?_
      · rw [List.length_append, List.length_map]
        have : (esc1 c).length ≤ 2 := by unfold esc1; split <;> simp
        omega
      · rw [esc_cons, List.map_append, ← List.append_assoc] at h
        exact h
theorem PathOf_step (ks : List (List UInt8)) (R : ByteArray) (i : Nat) (hi : i < ks.length) (hn : ks.length ≤ 1000) (acc : List Int) (hb : acc.length + 1 + 2 * ks[i].length ≤ 140737488355327)
    (h : Ev (fun k => spec_PathOf.l0 k (acc ++ ((if 0 < i then [46] else []) ++ esc ks[i]).map toI) (ks.map ML) (ks.length : Int) ((i + 1 : Nat) : Int)) R) :
    Ev (fun k => spec_PathOf.l0 k acc (ks.map ML) (ks.length : Int) (i : Int)) R := by
  have h2 : ∀ acc' : List Int, acc' = acc ++ (if 0 < i then [46] else []) → Ev (fun k => spec_PathOf.j1 k acc' (ML ks[i]) (ks.map ML) (ks.length : Int) (i : Int)) R := by
    rintro acc' rfl
    refine Ev.step (fun k => ?_) (PathOf_l1 (ks.map ML) (ks.length : Int) (i : Int) R ks[i] [] (acc ++ (if 0 < i then [46] else [])) (by rw [List.length_append]; split <;> simp <;> omega) (by simp; omega) ?_)
    · simp only [spec_PathOf.j1]; rfl
    · rw [w64 (by omega) (by omega)]
      have e : (acc ++ ((if 0 < i then [46] else []) ++ esc ks[i]).map toI) = (acc ++ (if 0 < i then ([46] : List Int) else [])) ++ (esc ks[i]).map toI := by
        by_cases h0 : 0 < i
        · simp [h0, toI]
        · simp [h0]
      rw [e] at h
      exact h
  by_cases h0 : 0 < i
  · refine Ev.step (fun k => ?_) (h2 _ rfl)
    simp only [spec_PathOf.l0]
    rw [if_pos (by omega), if_pos (by omega), if_pos (by simp; omega), if_pos (by omega), if_pos (by omega), rd_map ks i hi, if_pos h0]
  · refine Ev.step (fun k => ?_) (h2 _ rfl)
    simp only [spec_PathOf.l0]
    rw [if_pos (by omega), if_pos (by omega), if_pos (by simp; omega), if_neg (by omega), rd_map ks i hi, if_neg h0]
    simp
def tailL (r : List (List UInt8)) : List UInt8 := r.flatMap fun k => 46 :: esc k
def costL (r : List (List UInt8)) : Nat := (r.map fun k => 1 + 2 * k.length).sum
theorem PathOf_l0 (ks : List (List UInt8)) (hn : ks.length ≤ 1000) : ∀ (d i : Nat), i + d = ks.length → 0 < i → ∀ acc : List Int, acc.length + costL (ks.drop i) ≤ 140737488355327 →
    Ev (fun k => spec_PathOf.l0 k acc (ks.map ML) (ks.length : Int) (i : Int)) (strOfNums (acc ++ (tailL (ks.drop i)).map toI))
  | 0, i, hd, h0, acc, hb => by
    have e : ks.drop i = [] := List.drop_of_length_le (by omega)
    rw [e]
    refine Ev.step (f := fun _ => some (strOfNums (acc ++ (tailL []).map toI))) (fun k => ?_) (Ev.now _)
    simp only [spec_PathOf.l0]
    rw [if_neg (by omega)]
    simp [tailL]
  | d + 1, i, hd, h0, acc, hb => by
    have hi : i < ks.length := by omega
    have e : ks.drop i = ks[i] :: ks.drop (i + 1) := List.drop_eq_getElem_cons hi
    rw [e] at hb ⊢
    have hb2 : acc.length + (1 + 2 * ks[i].length + costL (ks.drop (i + 1))) ≤ 140737488355327 := hb
    refine PathOf_step ks _ i hi hn acc (by omega) ?_
    have hl := esc_len ks[i]
    have := PathOf_l0 ks hn d (i + 1) (by omega) (by omega) (acc ++ ((if 0 < i then [46] else []) ++ esc ks[i]).map toI) (by rw [List.length_append, List.length_map, if_pos h0]; simp; omega)
    rw [List.append_assoc, ← List.map_append, if_pos h0] at this
    rw [if_pos h0]
    exact this
def pathL : List (List UInt8) → List UInt8
  | [] => []
  | k :: r => esc k ++ tailL r
theorem PathOf_eq (ks : List (List UInt8)) (hn : ks.length ≤ 1000) (hb : costL ks ≤ 140737488355327) : Ev (fun k => spec_PathOf.f k (ks.map ML)) (ML (pathL ks)) := by
  unfold spec_PathOf.f
  cases ks with
  | nil =>
    refine Ev.step (f := fun _ => some (ML [])) (fun k => ?_) (Ev.now _)
    simp only [spec_PathOf.l0]
    rw [if_neg (by simp)]
    rfl
  | cons q r =>
    have hb2 : 1 + 2 * q.length + costL r ≤ 140737488355327 := hb
    have hl := esc_len q
    have h1 := PathOf_l0 (q :: r) hn r.length 1 (by simp; omega) (by omega) ((esc q).map toI) (by rw [List.length_map]; simp; omega)
    have h2 := PathOf_step (q :: r) _ 0 (by simp) hn [] (by simp; omega) (by simpa using h1)
    have e : strOfNums ((esc q).map toI ++ (tailL r).map toI) = ML (pathL (q :: r)) := by rw [← List.map_append, str_ML]; rfl
    rw [e] at h2
    simpa using h2
theorem pathL_len (ks : List (List UInt8)) : (pathL ks).length ≤ costL ks := by
  have ht : ∀ r : List (List UInt8), (tailL r).length ≤ costL r := by
    intro r
    induction r with
    | nil => simp [tailL]
    | cons q r ih =>
      have h1 : tailL (q :: r) = 46 :: (esc q ++ tailL r) := rfl
      have h2 : costL (q :: r) = 1 + 2 * q.length + costL r := rfl
      have hl := esc_len q
      rw [h1, h2, List.length_cons, List.length_append]
      omega
  cases ks with
  | nil => simp [pathL]
  | cons q r =>
    have h2 : costL (q :: r) = 1 + 2 * q.length + costL r := rfl
    have hl := esc_len q
    have := ht r
    rw [h2, pathL, List.length_append]
    omega

/-! parseObjectPath -/
/-- What is behind a component: nothing, a dot and more, a pipe and more; more begins with a byte that begins no list, form or modifier. -/
inductive Tail : List UInt8 → ByteArray × ByteArray × Bool × Bool → Prop
  | stop : Tail [] (ML [], ML [], false, false)
  | dot (c : UInt8) (R : List UInt8) (hc : c ≠ 64 ∧ c ≠ 91 ∧ c ≠ 123) : Tail (46 :: c :: R) (ML (c :: R), ML [], false, true)
  | pipe (R : List UInt8) : Tail (124 :: R) (ML [], ML R, true, false)
def whole (part : ByteArray) (t : ByteArray × ByteArray × Bool × Bool) : ByteArray × ByteArray × ByteArray × Bool × Bool × Bool := (part, t.1, t.2.1, t.2.2.1, false, t.2.2.2)
theorem isDot_no (c : UInt8) (R : List UInt8) (hc : c ≠ 64 ∧ c ≠ 91 ∧ c ≠ 123) (k : Nat) : gjson_isDotPiperChar.f k (ML (c :: R)) = some false := by
  unfold gjson_isDotPiperChar.f
  have h : bt (ML (c :: R)) 0 = toI c := bt_ML [] R c
  rw [if_pos (by rw [ML_size]; simp), h]
  rw [if_neg (show ¬ toI c = 64 from fun e => hc.1 (toI_inj (e.trans rfl))), if_neg (show ¬ toI c = 91 from fun e => hc.2.1 (toI_inj (e.trans rfl)))]
  have : (toI c == 123) = false := beq_eq_false_iff_ne.2 fun e => hc.2.2 (toI_inj (e.trans rfl))
  rw [this]
theorem to46 {c : UInt8} : toI c = 46 ↔ c = 46 := ⟨fun e => toI_inj (e.trans rfl), fun e => by rw [e]; rfl⟩
theorem to124 {c : UInt8} : toI c = 124 ↔ c = 124 := ⟨fun e => toI_inj (e.trans rfl), fun e => by rw [e]; rfl⟩
theorem to42 {c : UInt8} : toI c = 42 ↔ c = 42 := ⟨fun e => toI_inj (e.trans rfl), fun e => by rw [e]; rfl⟩
theorem to63 {c : UInt8} : toI c = 63 ↔ c = 63 := ⟨fun e => toI_inj (e.trans rfl), fun e => by rw [e]; rfl⟩
theorem to92 {c : UInt8} : toI c = 92 ↔ c = 92 := ⟨fun e => toI_inj (e.trans rfl), fun e => by rw [e]; rfl⟩
theorem pb_not {c : UInt8} (h : pb c = true) : ¬ toI c = 46 ∧ ¬ toI c = 124 ∧ ¬ toI c = 42 ∧ ¬ toI c = 63 ∧ ¬ toI c = 92 := by
  refine ⟨fun e => ?_, fun e => ?_, fun e => ?_, fun e => ?_, fun e => ?_⟩
  · rw [to46.1 e] at h; exact absurd h (by decide)
  · rw [to124.1 e] at h; exact absurd h (by decide)
  · rw [to42.1 e] at h; exact absurd h (by decide)
  · rw [to63.1 e] at h; exact absurd h (by decide)
  · rw [to92.1 e] at h; exact absurd h (by decide)
theorem OP_l1 (T : List UInt8) (t : ByteArray × ByteArray × Bool × Bool) (hT : Tail T t) : ∀ (B A : List UInt8) (acc : List Int), acc.length + B.length ≤ 140737488355000 → A.length + (esc B).length + T.length ≤ 140737488355000 →
    Ev (fun k => gjson_parseObjectPath.l1 k (ML (A ++ (esc B ++ T))) (A.length : Int) acc (ML []) (ML []) (ML []) false false false) (whole (strOfNums (acc ++ B.map toI)) t)
  | [], A, acc, hb, hl => by
    have e0 : esc ([] : List UInt8) = [] := rfl
    simp only [e0, List.nil_append, List.map_nil, List.append_nil]
    refine Ev.step (f := fun _ => some (whole (strOfNums acc) t)) (fun k => ?_) (Ev.now _)
    simp only [gjson_parseObjectPath.l1]
    cases hT with
    | stop =>
      rw [if_neg (by rw [ML_size]; simp)]
      rfl
    | dot c R hc =>
      have hsz : ((ML (A ++ 46 :: c :: R)).size : Int) = A.length + (R.length + 2) := by rw [ML_size]; simp <;> omega
      rw [bt_ML, hsz, if_pos (by omega), if_pos (by omega), if_neg (by rw [to92]; decide), if_pos (by rw [to46]), w64m (by omega) (by simp at hl; omega), if_pos (by omega), w64 (by omega) (by simp at hl; omega), if_pos (by omega), if_pos (by omega)]
      have hx : (ML (A ++ 46 :: c :: R)).extract ((A.length : Int) + 1).toNat (ML (A ++ 46 :: c :: R)).size = ML (c :: R) := by
        have := ML_from (A ++ [46]) (c :: R) (ML (A ++ 46 :: c :: R)).size (by rw [ML_size]; simp)
        simpa using this
      rw [hx, isDot_no c R hc]
      rfl
    | pipe R =>
      have hsz : ((ML (A ++ 124 :: R)).size : Int) = A.length + (R.length + 1) := by rw [ML_size]; simp
      rw [bt_ML, hsz, if_pos (by omega), if_pos (by omega), if_neg (by rw [to92]; decide), if_neg (by rw [to46]; decide), if_pos (by rw [to124]), w64 (by omega) (by simp at hl; omega), if_pos (by omega), if_pos (by omega)]
      have hx : (ML (A ++ 124 :: R)).extract ((A.length : Int) + 1).toNat (ML (A ++ 124 :: R)).size = ML R := by
        have := ML_from (A ++ [124]) R (ML (A ++ 124 :: R)).size (by rw [ML_size]; simp)
        simpa using this
      rw [hx]
      rfl
  | c :: B, A, acc, hb, hl => by
    simp only [List.length_cons] at hb
    rw [esc_cons] at hl ⊢
    rw [List.length_append] at hl
    have e2 : whole (strOfNums (acc ++ (c :: B).map toI)) t = whole (strOfNums ((acc ++ [toI c]) ++ B.map toI)) t := by simp
    rw [e2]
    have ih := OP_l1 T t hT B (A ++ esc1 c) (acc ++ [toI c]) (by simp; omega) (by rw [List.length_append]; omega)
    rw [show A ++ (esc1 c ++ esc B ++ T) = A ++ esc1 c ++ (esc B ++ T) by simp]
    have hsz : ((ML (A ++ esc1 c ++ (esc B ++ T))).size : Int) = A.length + ((esc1 c).length + ((esc B).length + T.length)) := by rw [ML_size]; simp <;> omega
    refine Ev.step (fun k => ?_) ih
    simp only [gjson_parseObjectPath.l1]
    rw [hsz]
    cases hp : pb c
    · have hee : esc1 c = [92, c] := by unfold esc1; rw [hp]; rfl
      have hb1 : bt (ML (A ++ esc1 c ++ (esc B ++ T))) (A.length : Int) = toI 92 := by rw [hee, List.append_assoc]; exact bt_ML A _ 92
      have hb2 : bt (ML (A ++ esc1 c ++ (esc B ++ T))) ((A.length : Int) + 1) = toI c := by
        have := bt_ML (A ++ [92]) (esc B ++ T) c
        rw [hee]
        simpa using this
      have hl1 : (esc1 c).length = 2 := by rw [hee]; rfl
      rw [hl1] at hl ⊢
      rw [hb1, if_pos (by omega), if_pos (by omega), if_pos (show toI 92 = 92 from rfl), w64 (by omega) (by omega), if_pos (by omega), if_pos (by omega), if_pos (by omega), w64 (by omega) (by omega), hb2]
      rw [List.length_append, hl1]
      rfl
    · have hee : esc1 c = [c] := by unfold esc1; rw [hp]; rfl
      have hb1 : bt (ML (A ++ esc1 c ++ (esc B ++ T))) (A.length : Int) = toI c := by rw [hee, List.append_assoc]; exact bt_ML A _ c
      have hl1 : (esc1 c).length = 1 := by rw [hee]; rfl
      obtain ⟨n1, n2, n3, n4, n5⟩ := pb_not hp
      rw [hl1] at hl ⊢
      rw [hb1, if_pos (by omega), if_pos (by omega), if_neg n5, if_neg n1, if_neg n2, if_neg n3, if_neg n4, if_pos (by omega), w64 (by omega) (by omega)]
      rw [List.length_append, hl1]
      rfl
theorem OP_l0 (T : List UInt8) (t : ByteArray × ByteArray × Bool × Bool) (hT : Tail T t) : ∀ (B A : List UInt8), A.length + 2 * B.length + T.length ≤ 140737488354000 →
    Ev (fun k => gjson_parseObjectPath.l0 k (ML (A ++ (esc B ++ T))) (A.length : Int) (ML []) (ML []) (ML []) false false false) (whole (ML (A ++ B)) t) := by
  intro B
  induction B with
  | nil =>
    intro A hl
    have e0 : esc ([] : List UInt8) = [] := rfl
    simp only [e0, List.nil_append, List.append_nil]
    refine Ev.step (f := fun _ => some (whole (ML A) t)) (fun k => ?_) (Ev.now _)
    simp only [gjson_parseObjectPath.l0]
    cases hT with
    | stop =>
      rw [if_neg (by rw [ML_size]; simp)]
      simp [whole]
    | dot c R hc =>
      have hsz : ((ML (A ++ 46 :: c :: R)).size : Int) = A.length + (R.length + 2) := by rw [ML_size]; simp <;> omega
      rw [bt_ML, hsz, if_pos (by omega), if_pos (by omega), if_neg (by rw [to124]; decide), if_pos (by rw [to46]), if_pos (by omega), w64m (by omega) (by simp at hl; omega), if_pos (by omega), w64 (by omega) (by simp at hl; omega), if_pos (by omega), if_pos (by omega)]
      have hx : (ML (A ++ 46 :: c :: R)).extract ((A.length : Int) + 1).toNat (ML (A ++ 46 :: c :: R)).size = ML (c :: R) := by
        have := ML_from (A ++ [46]) (c :: R) (ML (A ++ 46 :: c :: R)).size (by rw [ML_size]; simp)
        simpa using this
      rw [hx, isDot_no c R hc, Int.toNat_natCast, ML_upto]
      simp only [Option.bind_some]
      rw [if_neg (by decide)]
      rfl
    | pipe R =>
      have hsz : ((ML (A ++ 124 :: R)).size : Int) = A.length + (R.length + 1) := by rw [ML_size]; simp
      rw [bt_ML, hsz, if_pos (by omega), if_pos (by omega), if_pos (by rw [to124]), if_pos (by omega), w64 (by omega) (by simp at hl; omega), if_pos (by omega), if_pos (by omega)]
      have hx : (ML (A ++ 124 :: R)).extract ((A.length : Int) + 1).toNat (ML (A ++ 124 :: R)).size = ML R := by
        have := ML_from (A ++ [124]) R (ML (A ++ 124 :: R)).size (by rw [ML_size]; simp)
        simpa using this
      rw [hx, Int.toNat_natCast, ML_upto]
      rfl
  | cons c B ih0 =>
    intro A hl
    simp only [List.length_cons] at hl
    have hel := esc_len B
    rw [esc_cons]
    rw [show A ++ (esc1 c ++ esc B ++ T) = A ++ esc1 c ++ (esc B ++ T) by simp]
    have hsz : ((ML (A ++ esc1 c ++ (esc B ++ T))).size : Int) = A.length + ((esc1 c).length + ((esc B).length + T.length)) := by rw [ML_size]; simp <;> omega
    cases hp : pb c
    · have hee : esc1 c = [92, c] := by unfold esc1; rw [hp]; rfl
      have hb1 : bt (ML (A ++ esc1 c ++ (esc B ++ T))) (A.length : Int) = toI 92 := by rw [hee, List.append_assoc]; exact bt_ML A _ 92
      have hb2 : bt (ML (A ++ esc1 c ++ (esc B ++ T))) ((A.length : Int) + 1) = toI c := by
        have := bt_ML (A ++ [92]) (esc B ++ T) c
        rw [hee]
        simpa using this
      have hl1 : (esc1 c).length = 2 := by rw [hee]; rfl
      rw [hl1] at hsz
      have ih := OP_l1 T t hT B (A ++ esc1 c) (A.map toI ++ [toI c]) (by simp; omega) (by rw [List.length_append, hl1]; omega)
      have e2 : A.map toI ++ [toI c] ++ B.map toI = (A ++ c :: B).map toI := by simp
      rw [e2, str_ML] at ih
      refine Ev.step (f := fun k => gjson_parseObjectPath.j1 k (ML (A ++ esc1 c ++ (esc B ++ T))) (A.length : Int) false (ML []) (ML []) (ML []) false false false) (fun k => ?_) (Ev.step (fun k => ?_) ih)
      · simp only [gjson_parseObjectPath.l0]
        rw [hsz, hb1, if_pos (by omega), if_pos (by omega), if_neg (by rw [to124]; decide), if_neg (by rw [to46]; decide), if_neg (by rw [to42]; decide), show (toI 92 == 63) = false from by decide]
      · simp only [gjson_parseObjectPath.j1]
        have hx : (ML (A ++ esc1 c ++ (esc B ++ T))).extract 0 (A.length : Int).toNat = ML A := by rw [Int.toNat_natCast, List.append_assoc, ML_upto]
        rw [hsz, hb1, if_neg (by decide), if_pos (by omega), if_pos (by omega), if_pos (show toI 92 = 92 from rfl), if_pos (by omega), hx, if_pos (by rw [ML_size]; omega)]
        rw [Option.bind_some]
        rw [w64 (by omega) (by omega), if_pos (by omega), if_pos (by omega), bytesOf_ML, if_pos (by rw [List.length_map]; omega), w64 (by omega) (by omega), hb2]
        rw [show ((A ++ esc1 c).length : Int) = (A.length : Int) + 1 + 1 by rw [List.length_append, hl1]; omega]
    · have hee : esc1 c = [c] := by unfold esc1; rw [hp]; rfl
      have hb1 : bt (ML (A ++ esc1 c ++ (esc B ++ T))) (A.length : Int) = toI c := by rw [hee, List.append_assoc]; exact bt_ML A _ c
      have hl1 : (esc1 c).length = 1 := by rw [hee]; rfl
      obtain ⟨n1, n2, n3, n4, n5⟩ := pb_not hp
      rw [hl1] at hsz
      have ih := ih0 (A ++ esc1 c) (by rw [List.length_append, hl1]; omega)
      have e3 : A ++ esc1 c ++ B = A ++ c :: B := by rw [hee]; simp
      rw [e3] at ih
      refine Ev.step (f := fun k => gjson_parseObjectPath.j1 k (ML (A ++ esc1 c ++ (esc B ++ T))) (A.length : Int) false (ML []) (ML []) (ML []) false false false) (fun k => ?_) (Ev.step (fun k => ?_) ih)
      · simp only [gjson_parseObjectPath.l0]
        rw [hsz, hb1, if_pos (by omega), if_pos (by omega), if_neg n2, if_neg n1, if_neg n3, beq_eq_false_iff_ne.2 n4]
      · simp only [gjson_parseObjectPath.j1]
        rw [hsz, hb1, if_neg (by decide), if_pos (by omega), if_pos (by omega), if_neg n5, w64 (by omega) (by omega)]
        rw [show ((A ++ esc1 c).length : Int) = (A.length : Int) + 1 by rw [List.length_append, hl1]; omega]
theorem OP_eq (q T : List UInt8) (t : ByteArray × ByteArray × Bool × Bool) (hT : Tail T t) (hl : 2 * q.length + T.length ≤ 140737488354000) : Ev (fun k => impl_GjObjectPath.f k (ML (esc q ++ T))) (whole (ML q) t) := by
  have h := OP_l0 T t hT q [] (by simp; omega)
  have h1 : Ev (fun k => gjson_parseObjectPath.f k (ML (esc q ++ T))) (whole (ML q) t) := by simpa [gjson_parseObjectPath.f, ML] using h
  have h2 : Ev (fun k => gjson_DoorObjectPath.f k (ML (esc q ++ T))) (whole (ML q) t) := by
    unfold gjson_DoorObjectPath.f
    exact Ev.bind h1 (Ev.now _)
  unfold impl_GjObjectPath.f
  exact Ev.bind h2 (Ev.now _)

/-! the law -/
def fitsL (ks : List (List UInt8)) : Bool := ks.all fun q => decide (q.length ≤ 2147483647)
theorem fitsL_cons (q : List UInt8) (r : List (List UInt8)) : fitsL (q :: r) = (decide (q.length ≤ 2147483647) && fitsL r) := by simp [fitsL]
theorem fits_l0 (ks : List (List UInt8)) (hn : ks.length ≤ 140737488355328) : ∀ (d i : Nat), i + d = ks.length → Ev (fun k => laws_zzFits1.l0 k (ks.map ML) (ks.length : Int) (i : Int)) (fitsL (ks.drop i))
  | 0, i, hd => by
    rw [List.drop_of_length_le (by omega)]
    refine Ev.step (f := fun _ => some true) (fun k => ?_) (Ev.now _)
    simp only [laws_zzFits1.l0]
    rw [if_neg (by omega)]
  | d + 1, i, hd => by
    have hi : i < ks.length := by omega
    rw [List.drop_eq_getElem_cons hi]
    have ih := fits_l0 ks hn d (i + 1) (by omega)
    by_cases hq : ks[i].length ≤ 2147483647
    · have e : fitsL (ks[i] :: ks.drop (i + 1)) = fitsL (ks.drop (i + 1)) := by rw [fitsL_cons, decide_eq_true hq]; rfl
      rw [e]
      refine Ev.step (fun k => ?_) ih
      simp only [laws_zzFits1.l0]
      rw [if_pos (by omega), if_pos (by omega), if_pos (by simp; omega), rd_map ks i hi, if_neg (by rw [ML_size]; omega), w64 (by omega) (by omega)]
      rfl
    · have e : fitsL (ks[i] :: ks.drop (i + 1)) = false := by rw [fitsL_cons, decide_eq_false hq]; rfl
      rw [e]
      refine Ev.step (f := fun _ => some false) (fun k => ?_) (Ev.now _)
      simp only [laws_zzFits1.l0]
      rw [if_pos (by omega), if_pos (by omega), if_pos (by simp; omega), rd_map ks i hi, if_pos (by rw [ML_size]; omega)]
theorem fits_eq (ks : List (List UInt8)) (hn : ks.length ≤ 140737488355328) : ∃ b, Ev (fun k => laws_zzFits1.f k (ks.map ML)) b ∧ (b = true → ∀ q ∈ ks, q.length ≤ 2147483647) := by
  by_cases h : (ks.length : Int) > 2147483647
  · refine ⟨false, Ev.congr (fun k => ?_) (Ev.now _), by simp⟩
    unfold laws_zzFits1.f
    rw [if_pos (by simpa using h)]
  · refine ⟨fitsL ks, Ev.congr (fun k => ?_) (fits_l0 ks hn ks.length 0 (by omega)), fun hb q hq => ?_⟩
    · unfold laws_zzFits1.f
      rw [if_neg (by simpa using h)]
      simp
    · simpa using List.all_eq_true.1 hb q hq
def restL (ks : List (List UInt8)) : Bool := ks.all fun q => !q.isEmpty
theorem restL_cons (q : List UInt8) (r : List (List UInt8)) : restL (q :: r) = (!q.isEmpty && restL r) := by simp [restL]
theorem rest_l0 (ks : List (List UInt8)) (hn : ks.length ≤ 140737488355328) : ∀ (d i : Nat), i + d = ks.length → Ev (fun k => laws_gjRest.l0 k (ks.map ML) (ks.map ML) (ks.length : Int) (i : Int)) (restL (ks.drop i) && decide (0 < ks.length))
  | 0, i, hd => by
    rw [List.drop_of_length_le (by omega)]
    refine Ev.step (f := fun _ => some (restL [] && decide (0 < ks.length))) (fun k => ?_) (Ev.now _)
    simp only [laws_gjRest.l0]
    rw [if_neg (by omega)]
    simp [restL]
  | d + 1, i, hd => by
    have hi : i < ks.length := by omega
    rw [List.drop_eq_getElem_cons hi]
    have ih := rest_l0 ks hn d (i + 1) (by omega)
    by_cases hq : ks[i] = []
    · have e : (restL (ks[i] :: ks.drop (i + 1)) && decide (0 < ks.length)) = false := by rw [restL_cons, hq]; rfl
      rw [e]
      refine Ev.step (f := fun _ => some false) (fun k => ?_) (Ev.now _)
      simp only [laws_gjRest.l0]
      rw [if_pos (by omega), if_pos (by omega), if_pos (by simp; omega), rd_map ks i hi, ML_toList, if_pos hq]
    · have e : (restL (ks[i] :: ks.drop (i + 1)) && decide (0 < ks.length)) = (restL (ks.drop (i + 1)) && decide (0 < ks.length)) := by rw [restL_cons, List.isEmpty_eq_false_iff.2 hq]; rfl
      rw [e]
      refine Ev.step (fun k => ?_) ih
      simp only [laws_gjRest.l0]
      rw [if_pos (by omega), if_pos (by omega), if_pos (by simp; omega), rd_map ks i hi, ML_toList, if_neg hq, w64 (by omega) (by omega)]
      rfl
theorem rest_eq (ks : List (List UInt8)) (hn : ks.length ≤ 140737488355328) : Ev (fun k => laws_gjRest.f k (ks.map ML)) (restL ks && decide (0 < ks.length)) := by
  have := rest_l0 ks hn ks.length 0 (by omega)
  unfold laws_gjRest.f
  simpa using this
theorem cost_le (ks : List (List UInt8)) (h : ∀ q ∈ ks, q.length ≤ 2147483647) : costL ks ≤ ks.length * 4294967295 := by
  induction ks with
  | nil => simp [costL]
  | cons q r ih =>
    have h2 : costL (q :: r) = 1 + 2 * q.length + costL r := rfl
    have := ih fun x hx => h x (List.mem_cons_of_mem _ hx)
    have := h q List.mem_cons_self
    rw [h2, List.length_cons]
    omega
/-- A path of keys that are not empty begins with a byte that begins no list, form or modifier. -/
theorem pathL_head (q : List UInt8) (r : List (List UInt8)) (hq : q ≠ []) : ∃ c R, pathL (q :: r) = c :: R ∧ c ≠ 64 ∧ c ≠ 91 ∧ c ≠ 123 := by
  cases q with
  | nil => exact absurd rfl hq
  | cons c q =>
    cases hp : pb c
    · refine ⟨92, c :: (esc q ++ tailL r), ?_, by decide⟩
      simp [pathL, esc_cons, esc1, hp]
    · refine ⟨c, esc q ++ tailL r, ?_, ?_, ?_, ?_⟩
      · simp [pathL, esc_cons, esc1, hp]
      all_goals (rintro rfl; exact absurd hp (by decide))
theorem j3_true (x : List ByteArray) (hx : (x.length : Int) = 1) (pipe : Bool) (x5 x9 x10 : ByteArray) : Ev (fun k => laws_FnGjObjectPath.j3 k x pipe x5 x9 x10 false false false) true := by
  refine Ev.step (f := fun _ => some true) (fun k => ?_) (Ev.now _)
  simp only [laws_FnGjObjectPath.j3]
  rw [if_neg (by decide), if_pos hx, if_neg (by decide)]
  rfl
theorem law_true (ks : List (List UInt8)) (pipe : Bool) : Ev (fun k => laws_FnGjObjectPath.f k (ks.map ML) pipe) true := by
  by_cases hbig : 140737488355328 < ks.length
  · refine Ev.congr (f := fun _ => some true) (fun k => ?_) (Ev.now _)
    unfold laws_FnGjObjectPath.f laws_zzFits1.f
    rw [if_pos (by simp; omega)]
    rfl
  have hn : ks.length ≤ 140737488355328 := by omega
  obtain ⟨b, hb, hfit⟩ := fits_eq ks hn
  unfold laws_FnGjObjectPath.f
  refine Ev.bind hb ?_
  cases b with
  | false => exact Ev.congr (fun k => by rw [if_neg (by decide)]) (Ev.now _)
  | true =>
    simp only [if_true]
    refine Ev.bind (rest_eq ks hn) ?_
    have done : ∀ x, x = true → Ev (fun k => laws_FnGjObjectPath.j0 k (ks.map ML) pipe x) true := by
      rintro x rfl
      refine Ev.step (f := fun _ => some true) (fun k => ?_) (Ev.now _)
      simp only [laws_FnGjObjectPath.j0]
      rw [if_pos trivial]
    by_cases hr : (restL ks && decide (0 < ks.length)) = true
    · rw [hr]
      simp only [if_true, List.length_map]
      by_cases h64 : (ks.length : Int) > 64
      · exact done _ (decide_eq_true h64)
      · rw [decide_eq_false h64]
        simp only [Bool.and_eq_true, decide_eq_true_eq] at hr
        obtain ⟨hr1, hr2⟩ := hr
        have hne : ∀ q ∈ ks, q ≠ [] := fun q hq e => by have := List.all_eq_true.1 hr1 q hq; simp [e] at this
        have hf := hfit rfl
        cases ks with
        | nil => simp at hr2
        | cons q r =>
          have hc := cost_le (q :: r) hf
          have hc2 : costL (q :: r) = 1 + 2 * q.length + costL r := rfl
          simp only [List.length_cons] at h64 hc
          have hrl : r.length ≤ 63 := by omega
          have hcb : costL (q :: r) ≤ 274877906880 := by omega
          have hp1 := PathOf_eq r (by omega) (by omega)
          have hp2 := PathOf_eq [q] (by simp) (by simp [costL]; omega)
          have e2 : pathL [q] = esc q := by simp [pathL, tailL]
          rw [e2] at hp2
          have hel := esc_len q
          have hpl := pathL_len r
          refine Ev.step (f := fun k => (spec_PathOf.f k (r.map ML)).bind fun t155 => if pipe = true then laws_FnGjObjectPath.j1 k ((q :: r).map ML) pipe t155 (⟨#[124]⟩ : ByteArray) else laws_FnGjObjectPath.j1 k ((q :: r).map ML) pipe t155 (⟨#[46]⟩ : ByteArray)) (fun k => ?_) ?_
          · simp only [laws_FnGjObjectPath.j0]
            rw [if_neg (by decide), if_pos (by simp <;> omega)]
            simp
          refine Ev.bind hp1 ?_
          -- the rest, for either separator
          have key : ∀ (sep : UInt8) (t : ByteArray × ByteArray × Bool × Bool), (r ≠ [] → Tail (sep :: pathL r) t) → (r ≠ [] → Ev (fun k => laws_FnGjObjectPath.j3 k ((q :: r).map ML) pipe (ML (pathL r)) t.1 t.2.1 t.2.2.1 t.2.2.2 false) true) → Ev (fun k => laws_FnGjObjectPath.j1 k ((q :: r).map ML) pipe (ML (pathL r)) (ML [sep])) true := by
            intro sep t ht hj3
            refine Ev.step (f := fun k => (spec_PathOf.f k ([q].map ML)).bind fun t157 => if (((q :: r).map ML).length : Int) > 1 then (if (ML [sep]).size + (ML (pathL r)).size ≤ 9223372036854775807 then (if t157.size + (ML [sep] ++ ML (pathL r)).size ≤ 9223372036854775807 then (laws_FnGjObjectPath.j2 k ((q :: r).map ML) pipe (ML (pathL r)) (t157 ++ (ML [sep] ++ ML (pathL r)))) else none) else none) else laws_FnGjObjectPath.j2 k ((q :: r).map ML) pipe (ML (pathL r)) t157) (fun k => ?_) ?_
            · simp only [laws_FnGjObjectPath.j1]
              rw [if_pos (by simp <;> omega)]
              simp
            refine Ev.bind hp2 ?_
            have hj2 : ∀ (T : List UInt8) (u : ByteArray × ByteArray × Bool × Bool), Tail T u → 2 * q.length + T.length ≤ 140737488354000 → Ev (fun k => laws_FnGjObjectPath.j3 k ((q :: r).map ML) pipe (ML (pathL r)) u.1 u.2.1 u.2.2.1 u.2.2.2 false) true → Ev (fun k => laws_FnGjObjectPath.j2 k ((q :: r).map ML) pipe (ML (pathL r)) (ML (esc q ++ T))) true := by
              intro T u hu hl hj
              refine Ev.up ?_
              simp only [laws_FnGjObjectPath.j2]
              refine Ev.bind (OP_eq q T u hu hl) (Ev.congr (fun k => ?_) hj)
              have hrd : rdOf ByteArray.empty ((q :: r).map ML) 0 = ML q := rfl
              rw [if_pos (by simp), hrd, if_pos (show (whole (ML q) u).1.toList = (ML q).toList from rfl)]
              rfl
            cases r with
            | nil =>
              refine Ev.congr (fun k => by rw [if_neg (by simp)]) ?_
              have := hj2 [] _ Tail.stop (by simp; omega) (j3_true _ (by simp) _ _ _ _)
              simpa using this
            | cons q2 r2 =>
              have hne2 : q2 :: r2 ≠ [] := by simp
              refine Ev.congr (f := fun k => laws_FnGjObjectPath.j2 k ((q :: q2 :: r2).map ML) pipe (ML (pathL (q2 :: r2))) (ML (esc q ++ (sep :: pathL (q2 :: r2))))) (fun k => ?_) (hj2 _ t (ht hne2) (by simp; omega) (hj3 hne2))
              rw [if_pos (by simp; omega), if_pos (by rw [ML_size, ML_size]; simp; omega), ML_append, ML_append, if_pos (by rw [ML_size, ML_size]; simp; omega)]
              rfl
          cases pipe with
          | true =>
            simp only [if_true]
            refine key 124 (ML [], ML (pathL r), true, false) (fun _ => Tail.pipe _) (fun h => ?_)
            refine Ev.step (f := fun _ => some true) (fun k => ?_) (Ev.now _)
            simp only [laws_FnGjObjectPath.j3]
            have hrl2 : 0 < r.length := List.length_pos_iff.2 h
            rw [if_neg (by decide), if_neg (by simp; omega), if_pos trivial, if_pos trivial, if_neg (by decide)]
            simp
          | false =>
            simp only [Bool.false_eq_true, if_false]
            refine key 46 (ML (pathL r), ML [], false, true) (fun h => ?_) (fun h => ?_)
            · cases r with
              | nil => exact absurd rfl h
              | cons q2 r2 =>
                obtain ⟨c, R, he, hc⟩ := pathL_head q2 r2 (hne q2 (by simp))
                rw [he]
                exact Tail.dot c R hc
            · refine Ev.step (f := fun _ => some true) (fun k => ?_) (Ev.now _)
              simp only [laws_FnGjObjectPath.j3]
              have hrl2 : 0 < r.length := List.length_pos_iff.2 h
              rw [if_neg (by decide), if_neg (by simp; omega), if_neg (by decide), if_neg (by decide), if_pos trivial]
              simp
    · rw [Bool.eq_false_iff.2 hr]
      simp only [Bool.false_eq_true, if_false]
      exact done _ rfl
end Go.Proofs.YtnpkgjoiencbiaaGreatDoor.MOP
