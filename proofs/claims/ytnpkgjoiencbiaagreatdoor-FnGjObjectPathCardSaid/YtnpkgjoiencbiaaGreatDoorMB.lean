/- Plain words of this session: a row of bytes of the call's own whose block may bear a conversion's mark behind its last cell: what '[]byte(s)' makes, and what appends make of it. -/
import Derived.Test.YtnpkgjoiencbiaaGreatDoorProg
import Derived.Test.YtnpkgjoiencbiaaGreatDoorWWords
import Derived.Test.YtnpkgjoiencbiaaGreatDoorWMore
namespace Go.Proofs.YtnpkgjoiencbiaaGreatDoorW.PrintWords.KdB
open Go.RowKit Go.Proofs.YtnpkgjoiencbiaaGreatDoorW.PrintWords Go.Proofs.YtnpkgjoiencbiaaGreatDoorW.PrintLast Go.Proofs.YtnpkgjoiencbiaaGreatDoorW.PrintMore
set_option linter.unusedVariables false
set_option linter.unusedSimpArgs false

def Row (e : Nat) (w : World) (base : Nat) (v : Value) (xs : List Int) : Prop :=
  (v = .slice none 0 0 ∧ xs = []) ∨
  ∃ g cap cur m, v = .slice (some ⟨g, 0, none⟩) xs.length cap ∧ base ≤ g ∧ w.heap[g]? = some (.cells cur e m) ∧ (m = (0, 0) ∨ cur.size ≤ m.1) ∧ xs.length ≤ cap ∧ cap ≤ maxLen ∧ cur.size = cap ∧ cur.toList.take xs.length = nums .u8 xs
def R (_d : Kd Int) (e : Nat) (w : World) (base : Nat) (ok : Nat → Prop) (v : Value) (xs : List Int) : Prop :=
  (∀ k, v.ownBlock = some k → ok k) ∧ Row e w base v xs
section
variable {d : Kd Int} {e : Nat} {w w1 : World} {base : Nat} {ok ok' : Nat → Prop} {v : Value} {xs : List Int}
theorem R_mono (h : R d e w base ok v xs) (hok : ∀ k, ok k → ok' k) : R d e w base ok' v xs := ⟨fun k hk => hok k (h.1 k hk), h.2⟩
theorem R_lower {base' : Nat} (h : R d e w base ok v xs) (hb : base' ≤ base) : R d e w base' ok v xs := by
  obtain ⟨h0, h1⟩ := h
  refine ⟨h0, ?_⟩
  rcases h1 with h1 | ⟨g, cap, cur, m, rfl, hg, hh, r⟩
  · exact .inl h1
  · exact .inr ⟨g, cap, cur, m, rfl, Nat.le_trans hb hg, hh, r⟩
theorem R_step (h : R d e w base ok v xs) (hm : ∀ k, ok k → k < w.heap.size → w1.heap[k]? = w.heap[k]?) : R d e w1 base ok v xs := by
  obtain ⟨h0, h1⟩ := h
  refine ⟨h0, ?_⟩
  rcases h1 with h1 | ⟨g, cap, cur, m, rfl, hg, hh, r⟩
  · exact .inl h1
  · exact .inr ⟨g, cap, cur, m, rfl, hg, by rw [hm g (h0 g rfl) (blk_lt hh)]; exact hh, r⟩
theorem R_below (h : R d e w base ok v xs) (hb : Below w.heap.size w w1) : R d e w1 base ok v xs := R_step h (fun k _ hk => hb.block k hk)
theorem R_alloc (h : R d e w base ok v xs) (o : Obj) : R d e (w.alloc o) base ok v xs := R_below h (below_alloc (Below.refl _ _) o)
theorem R_drew (h : R d e w base ok v xs) : R d e w.drew base ok v xs := R_below h (below_drew (Below.refl _ _))
theorem R_drewN (h : R d e w base ok v xs) (m : Nat) : R d e (w.drewN m) base ok v xs := R_below h (pw_below_drewN (Below.refl _ _) m)
theorem R_far (h : R d e w base ok v xs) {p : Addr} (hok : ∀ k, ok k → k ≠ p.block) (u : Value) : R d e (w.setCell p u) base ok v xs := R_step h (fun k ho _ => Below.heap_setCell w p u k (hok k ho))
theorem R_ne (h : R d e w base ok v xs) {g t : Nat} {cells : Array Value} (hb : w.heap[g]? = some (.cells cells t (0, 0))) (ht : e ≠ t) : some g ≠ v.ownBlock := by
  rcases h.2 with ⟨rfl, _⟩ | ⟨g', cap, cur, m, rfl, _, hh, _⟩
  · simp [Value.ownBlock]
  · intro he
    have : g = g' := by simpa [Value.ownBlock] using he
    subst this
    rw [hb] at hh
    injection hh with hh
    injection hh with _ h2 _
    exact ht h2.symm
theorem R_types (h : R d e w base ok v xs) {g t : Nat} {cells : Array Value} (hb : w.heap[g]? = some (.cells cells t (0, 0))) (ht : e ≠ t) : R d e w base (fun k => ok k ∧ k ≠ g) v xs :=
  ⟨fun k hk => ⟨h.1 k hk, fun he => R_ne h hb ht (by rw [hk, he])⟩, h.2⟩
theorem own_of_R (h : R d e w base ok v xs) : Row e w base v xs := h.2
theorem own_string {P : Program} {src dst e2 : TypeId} (hs : P.underlying src = some (.slice e2)) (he : P.underlying e2 = some (.int .u8)) (hd : P.underlying dst = some .string)
    (h : Row e w base v xs) : (convert src dst v).run P w = .ok (.string (strOfNums xs)) w := by
  rcases h with ⟨rfl, rfl⟩ | ⟨g, cap, cur, m, rfl, hg, hh, hm, hl, hc, hcs, htake⟩
  · exact run_convert_bytes_nil w src e2 hs he 0 0 dst hd
  · refine run_convert_bytes_arg w src e2 hs he g 0 xs.length cap xs rfl (fun i hi => ?_) dst hd
    have h1 : (cur.toList.take xs.length)[i]? = some (.int .u8 (xs.getD i 0)) := by
      rw [htake]
      simp [nums, List.getElem?_eq_getElem hi, List.getD_eq_getElem?_getD]
    rw [List.getElem?_take_of_lt hi] at h1
    simp only [World.cell?, Nat.zero_add, hh]
    simpa using h1
end
section
variable {P : Program} {ops : Array Oper} {rest : List Oper} {o : Oper} {a : Act} {Q : Exit → Act → World → Prop}
theorem R_conv {w0 W : World} {base : Nat} (e : TypeId) (hgd : o.guard = none) {N : Tmp} (hd : o.dst = some N) (src dst : TypeId) (x : Operand) (ho : o.op = .convert src dst x) (s : ByteArray) (hx : a.eval x = .string s)
    {u : TypeDesc} (hsrc : P.underlying src = some u) (hdst : P.underlying dst = some (.slice e)) (he : P.underlying e = some (.int .u8)) {ok : Nat → Prop} (hfresh : ok W.heap.size) (hsz : s.size ≤ 140737488355328)
    (HB : Below base w0 W) (hbase : base ≤ W.heap.size)
    (h : ∀ v1 w1, R (Kd.int .u8) e w1 base ok v1 (bytesOf s) → Below base w0 w1 → True → True → wpList P ops Q rest (a.put o.dst v1) w1) : wpList P ops Q (o :: rest) a W := by
  refine wpList_plain hgd fun K hK => ?_
  have hr := Lib.run_convert_string_bytes (P := P) W src dst e s hsrc hdst he
  unfold Oper.wp
  simp [execOp, ho, hx, hr, Result.andThen]
  refine hK _ _ (h _ _ ⟨?_, .inr ⟨W.heap.size, grownCap W s.size 0 e, Lib.bytesCells W e s, _, ?_, hbase, Lib.bytesWorld_at_new W e s, .inr (Nat.le_refl _), ?_, ?_, ?_, ?_⟩⟩ ?_ trivial trivial)
  · intro k hk
    obtain rfl : W.heap.size = k := by simpa [Value.ownBlock] using hk
    exact hfresh
  · rw [bytesOf_length]
  · rw [bytesOf_length]; exact grownCap_ge _ _ _ _
  · exact grownCap_le_maxLen _ _ _ _ (by simp only [maxLen]; omega)
  · have := grownCap_ge W s.size 0 e
    simp only [Lib.bytesCells, Array.size_append, Array.size_map, Array.size_replicate]
    have h3 : s.data.size = s.size := rfl
    omega
  · rw [bytesOf_length]
    have h3 : s.data.toList.length = s.size := data_length s
    simp only [Lib.bytesCells, Array.toList_append, Array.toList_map]
    rw [List.take_append_of_le_length (by rw [List.length_map, h3]; exact Nat.le_refl _), List.take_of_length_le (by rw [List.length_map, h3]; exact Nat.le_refl _)]
    simp [nums, bytesOf]
  · exact HB.trans ⟨rfl, rfl, rfl, by rw [Lib.bytesWorld_size]; omega, fun i hi => Lib.bytesWorld_at_old W e s i (by omega)⟩
theorem R_append (d : Kd Int) {w0 W : World} (base : Nat) (hgd : o.guard = none) (s x : Operand) (t e : TypeId) (z : Value) (bytes : Nat)
    (ho : o.op = .call { callee := .builtin .append, args := #[s, x], argTypes := #[t, t] })
    (ht : P.underlying t = some (.slice e)) (hinfo : (P.info? e).map (fun i => (i.zero, i.size, i.bytes)) = some (some z, 1, bytes)) (hz : z.cells.size = 1) (hs0 : 0 < 1) (hb0 : 0 < bytes)
    (v : Value) (xs : List Int) (p : Int) (cs : List Value) (ok okp : Nat → Prop) (hs : a.eval s = v) (hx : a.eval x = .slice (some ⟨W.heap.size, 0, none⟩) 1 1) (hp : cs = [.int .u8 p]) (hokp : ∀ k, okp k → ok k ∧ some k ≠ v.ownBlock) (hfresh : ∀ k, W.heap.size ≤ k → ok k)
    (HO : R d e W base ok v xs) (HB : Below base w0 W) (hbase : base ≤ W.heap.size) (hl : (xs.length + 1) * bytes ≤ 140737488355328)
    (h : ∀ v1 w1, R d e w1 base ok v1 (xs ++ [p]) → Below base w0 w1 → W.grownBy w1 v.ownBlock → (v1.ownBlock = v.ownBlock ∨ ∃ b, v1.ownBlock = some b ∧ W.heap.size ≤ b) → wpList P ops Q rest (a.put o.dst v1) w1) :
    wpList P ops Q (o :: rest) a (W.alloc (.cells cs.toArray e)) := by
  subst hp
  obtain ⟨i0, hi, hzz⟩ := Option.map_eq_some_iff.1 hinfo
  simp only [Prod.mk.injEq] at hzz
  obtain ⟨hz0, hz1, hz2⟩ := hzz
  have hlen : xs.length + 1 ≤ 140737488355328 := Nat.le_trans (Nat.le_mul_of_pos_right _ hb0) hl
  have hmx : xs.length + 1 ≤ maxLen := by simp only [maxLen]; omega
  have hnews : ∀ j u, [Value.int .u8 p][j]? = some u → (W.alloc (.cells [Value.int .u8 p].toArray e)).cell? ((⟨W.heap.size, 0, none⟩ : Addr).add j) = some u :=
    World.news_of_block (cs := [Value.int .u8 p].toArray) (t := e) (fr := (0, 0)) (heap_alloc_new W (.cells [Value.int .u8 p].toArray e))
  obtain ⟨h0, hrow⟩ := HO
  -- a new row behind the append, out of the kit's word
  have fin : ∀ v' w', w'.ownsRow (W.heap.size + 1) e 1 v' (xs.length + 1) (nums .u8 xs ++ [Value.int .u8 p]) → (W.alloc (.cells [Value.int .u8 p].toArray e)).grownBy w' none → wpList P ops Q rest (a.put o.dst v') w' := by
    intro v' w' hown hg
    have hg' : W.grownBy w' v.ownBlock := by
      have h1 := World.grownBy.trans (World.grownBy_alloc W _ _) hg
      exact ⟨h1.os, h1.tape, h1.output, h1.size, fun k hk _ => h1.block k hk (by simp)⟩
    have hn : nums .u8 xs ++ [Value.int .u8 p] = nums .u8 (xs ++ [p]) := by simp [nums]
    rw [hn] at hown
    have hrow' : Row e w' (W.heap.size + 1) v' (xs ++ [p]) := by
      rcases hown.2 with ⟨_, h2⟩ | ⟨g, cap, cur, rfl, hbg, hh, hnc, hcm, hcs, htk⟩
      · omega
      · exact .inr ⟨g, cap, cur, _, by simp, hbg, hh, .inl rfl, by simpa using hnc, hcm, by simpa using hcs, by simpa using htk⟩
    have hob : ∀ k, v'.ownBlock = some k → W.heap.size + 1 ≤ k := by
      rcases hrow' with ⟨rfl, h2⟩ | ⟨g, cap, cur, m, rfl, hbg, _⟩
      · simp at h2
      · intro k hk
        obtain rfl : g = k := by simpa [Value.ownBlock] using hk
        exact hbg
    refine h v' w' ⟨fun k hk => hfresh k (by have := hob k hk; omega), ?_⟩ ?_ hg' ?_
    · rcases hrow' with h2 | ⟨g, cap, cur, m, rfl, hbg, r⟩
      · exact .inl h2
      · exact .inr ⟨g, cap, cur, m, rfl, by omega, r⟩
    · exact (HB.alloc hbase _).grown hg (by simp; omega) (by simp)
    · rcases hrow' with ⟨rfl, h2⟩ | ⟨g, cap, cur, m, rfl, hbg, r⟩
      · simp at h2
      · exact .inr ⟨g, rfl, by omega⟩
  rcases hrow with ⟨rfl, rfl⟩ | ⟨g, cap, cur, m, rfl, hbg, hh, hm, hnc, hcm, hcs, htk⟩
  · refine wpList_append_grows (W.alloc (.cells [Value.int .u8 p].toArray e)) hgd s x t ho e i0 z 1 bytes ht hi hz0 hz1 hz2 hz (by decide) none 0 0 [] hs (fun _ => ⟨rfl, rfl⟩) rfl (by simp)
      ⟨W.heap.size, 0, none⟩ 1 1 [Value.int .u8 p] hx rfl hnews (by simp [Value.oneCell']) (by omega) (by simpa using hmx) (by simpa using hl) ?_
    intro v' w' hown hg
    exact fin v' w' (by simpa [nums] using hown) hg
  · have hhA : (W.alloc (.cells [Value.int .u8 p].toArray e)).heap[g]? = some (.cells cur e m) := (Below.heap_alloc W _ g (blk_lt hh)).trans hh
    have hclen : cur.toList.length = cap := by rw [Array.length_toList]; exact hcs
    refine wpList_append_arg (W.alloc (.cells [Value.int .u8 p].toArray e)) hgd s x t ho e i0 z 1 bytes ht hi hz0 hz1 hz2 hz (by decide) g 0 xs.length cap (nums .u8 xs) hs (by simp [nums]) ?_
      ⟨W.heap.size, 0, none⟩ 1 1 [Value.int .u8 p] hx rfl hnews (by simp [Value.oneCell']) ?_ hmx hl ?_ ?_
    · intro j u hj
      have hjl : j < xs.length := by
        have := (List.getElem?_eq_some_iff.1 hj).1
        simpa [nums] using this
      rw [← htk, List.getElem?_take_of_lt hjl] at hj
      simp only [World.cell?, Nat.zero_add, hhA]
      simpa using hj
    · intro hr j hj
      have hj0 : j = 0 := by simpa using hj
      subst hj0
      have hlt : xs.length < cur.size := by omega
      constructor
      · simp [World.cell?, hhA, hlt]
      · rcases hm with rfl | hm
        · simp [World.frozen?, hhA]
        · obtain ⟨m1, m2⟩ := m
          simp only [World.frozen?, hhA]
          simp at hm ⊢
          omega
    · intro hr
      have hlt : xs.length < cur.size := by omega
      have hset : ((W.alloc (.cells [Value.int .u8 p].toArray e)).setCells g (0 + xs.length * 1) [Value.int .u8 p]) = (W.alloc (.cells [Value.int .u8 p].toArray e)).setCell ⟨g, xs.length, none⟩ (Value.int .u8 p) := by
        simp [World.setCells]
      rw [hset]
      have hnew : ((W.alloc (.cells [Value.int .u8 p].toArray e)).setCell ⟨g, xs.length, none⟩ (Value.int .u8 p)).heap[g]? = some (.cells (cur.setIfInBounds xs.length (Value.int .u8 p)) e m) := by
        simp only [World.setCell, Array.getElem?_modify, hhA]
        simp
      refine h _ _ ⟨fun k hk => h0 k hk, .inr ⟨g, cap, _, m, by simp, hbg, hnew, by simpa using hm, by simpa using hr, hcm, by simpa using hcs, ?_⟩⟩ ((HB.alloc hbase _).setCell hbg _) ?_ (.inl rfl)
      · have hn : nums .u8 (xs ++ [p]) = nums .u8 xs ++ [Value.int .u8 p] := by simp [nums]
        rw [hn, ← htk, Array.toList_setIfInBounds, List.length_append, List.length_singleton]
        rw [List.take_set]
        apply List.ext_getElem?
        intro j
        rcases Nat.lt_trichotomy j xs.length with hj | hj | hj
        · rw [List.getElem?_set_ne (by omega), List.getElem?_append_left (by rw [List.length_take]; omega), List.getElem?_take_of_lt (by omega), List.getElem?_take_of_lt hj]
        · subst hj
          rw [List.getElem?_set_self (by rw [List.length_take]; omega), List.getElem?_append_right (by rw [List.length_take]; omega), List.length_take, Nat.min_eq_left (by omega)]
          simp
        · rw [List.getElem?_eq_none (by rw [List.length_set, List.length_take]; omega), List.getElem?_eq_none (by rw [List.length_append, List.length_take, List.length_singleton]; omega)]
      · have h1 := World.grownBy_alloc W (.cells [Value.int .u8 p].toArray e) (some g)
        refine ⟨h1.os, h1.tape, h1.output, ?_, fun k hk hne => ?_⟩
        · simp [World.setCell]
        · rw [Below.heap_setCell _ _ _ _ (fun he => hne (by simp [Value.ownBlock, he]))]
          exact h1.block k hk (fun he => hne (by simpa [Value.ownBlock] using he))
    · intro hr v' w' hown hg
      exact fin v' w' (by
        have h9 : (W.alloc (.cells [Value.int .u8 p].toArray e)).heap.size = W.heap.size + 1 := by simp
        rw [h9] at hown
        exact hown) hg
end
end Go.Proofs.YtnpkgjoiencbiaaGreatDoorW.PrintWords.KdB
