/-
  BMinus: what the law's last two loops keep, plain.
-/
import Derived.Test.YbulkaalaBb
namespace Go.Proofs.Ybulkaala.B
open Go.RowKit
set_option linter.unusedVariables false
set_option linter.unusedSimpArgs false

/-- a's place at the path i is removed -/
def Rem (fa fb : Nat → Int) (i : Nat) : Prop := ∃ j : Nat, fa i = (j : Int) ∧ HB fb i j
/-- 'last' behind m rounds -/
def Lst (fa fb : Nat → Int) (m : Nat) (last : Int) : Prop := -1 ≤ last ∧ last < m ∧ ∀ i : Nat, i < m → last < i → ¬ Rem fa fb i

section
variable {fa fb : Nat → Int} {m : Nat} {last : Int}
theorem Lst.start : Lst fa fb 0 (-1) := ⟨by omega, by omega, fun i hi => by omega⟩
theorem Lst.skip (h : Lst fa fb m last) (hn : ¬ Rem fa fb m) : Lst fa fb (m + 1) last :=
  ⟨h.1, by have := h.2.1; omega, fun i h1 h2 => by rcases Nat.eq_or_lt_of_le (Nat.le_of_lt_succ h1) with rfl | h3; exact hn; exact h.2.2 i h3 h2⟩
theorem Lst.hit (m : Nat) : Lst fa fb (m + 1) (m : Int) := ⟨by omega, by omega, fun i h1 h2 => by omega⟩
theorem rem_neg (h : fa m < 0) : ¬ Rem fa fb m := by rintro ⟨j, hj, _⟩; omega
theorem rem_bit {j : Nat} (hj : fa m = (j : Int)) (h : bitB (fb m) j = false) : ¬ Rem fa fb m := by
  rintro ⟨j', hj', _, h2⟩
  obtain rfl : j = j' := by omega
  rw [h] at h2; cases h2
end

section
variable {w wr w1 : World} {fa fb : Nat → Int} {k : Nat} {last : Int} {va vr vb : Option Addr} {la lr lb : List Ent}

theorem R4.but (h : R4 w wr fa fb k va la) (hg : wr.grownBy w1 (some w.heap.size)) (hE : EvOk w.heap.size w1) : R4 w w1 fa fb k va la := by
  have hz := h.size
  have old : ∀ x, x < wr.heap.size → x ≠ w.heap.size → w1.heap[x]? = wr.heap[x]? := But.of_gb hg
  refine ⟨h.ctx.kept (h.ctx.bel.trans ⟨hg.os, hg.tape, hg.output, hg.size, fun x hx => old x (by omega) (by omega)⟩) hE (fun x h1 h2 => old x (by omega) (by omega)), h.aj.kept (old _ h.aj.lt (by omega)), h.bm.kept (old _ h.bm.lt (by omega)),
    h.an.kept (old _ h.size (by omega)), h.lst.kept old, h.la, Nat.lt_of_lt_of_le h.size hg.size⟩

theorem kp_iff (h : LA w.heap.size fa k la) {e : Ent} (he : e ∈ la) : Kp (HB fb) e ↔ ¬ Rem fa fb e.1 := by
  obtain ⟨j, sb, h1, h2⟩ := h.one e he
  unfold Kp
  rw [h1]
  simp only [codes, List.map_cons, List.map_nil, List.mem_singleton, forall_eq]
  refine not_congr ⟨fun x => ⟨j, h2, x⟩, ?_⟩
  rintro ⟨j', h3, h4⟩
  obtain rfl : j = j' := by omega
  exact h4

theorem all_kept (h : LA w.heap.size fa k la) (hl : Lst fa fb 6 last) (h0 : last < 0) : ∀ e ∈ la, Kp (HB fb) e := fun e he =>
  (kp_iff h he).2 (hl.2.2 e.1 (h.rng e he).2 (by omega))

/-- the last loop, behind k rounds: 'vr' is what is left of the result, against what is left of a -/
structure R8 (w wr : World) (fa fb : Nat → Int) (va : Option Addr) (la : List Ent) (k : Nat) (vr : Option Addr) (la' lr : List Ent) : Prop where
  r4 : R4 w wr fa fb 0 va la
  lst : PLst w.heap.size wr vr lr
  split : ∃ pre, la = pre ++ la' ∧ ∀ e ∈ pre, e.1 < k
  rng : ∀ e ∈ la', k ≤ e.1
  res : Res (HB fb) la' lr

variable {la' : List Ent}
theorem R8.below (h : R8 w wr fa fb va la k vr la' lr) (hb : Below wr.heap.size wr w1) : R8 w w1 fa fb va la k vr la' lr :=
  ⟨h.r4.below hb, h.lst.kept (fun x hx _ => hb.block x hx), h.split, h.rng, h.res⟩
theorem R8.start (h : R4 w wr fa fb 0 va la) (hl : PLst w.heap.size wr vr lr) (hr : Res (HB fb) la lr) : R8 w wr fa fb va la 0 vr la lr :=
  ⟨h, hl, ⟨[], rfl, by simp⟩, fun e he => Nat.zero_le _, hr⟩
theorem R8.mem (h : R8 w wr fa fb va la k vr la' lr) {e : Ent} (he : e ∈ la') : e ∈ la := by
  obtain ⟨pre, rfl, _⟩ := h.split
  simp [he]
theorem R8.skip (h : R8 w wr fa fb va la k vr la' lr) (h0 : fa k < 0) : R8 w wr fa fb va la (k + 1) vr la' lr := by
  refine ⟨h.r4, h.lst, ?_, fun e he => ?_, h.res⟩
  · obtain ⟨pre, h1, h2⟩ := h.split
    exact ⟨pre, h1, fun e he => Nat.lt_succ_of_lt (h2 e he)⟩
  · have h1 := h.rng e he
    obtain ⟨j, sb, _, h2⟩ := h.r4.la.one e (h.mem he)
    rcases Nat.eq_or_lt_of_le h1 with h3 | h3
    · rw [← h3] at h2; omega
    · exact h3

/-- a's place at the path k stands first among what is left -/
theorem R8.head (h : R8 w wr fa fb va la k vr la' lr) (hk : k < 6) {j : Nat} (hj : fa k = (j : Int)) : ∃ nb sb la'', la' = (k, nb, [(j, sb)]) :: la'' ∧ ∀ e ∈ la'', k + 1 ≤ e.1 := by
  obtain ⟨e, he, hi⟩ := h.r4.la.all k (Nat.zero_le _) hk (by omega)
  obtain ⟨pre, h1, h2⟩ := h.split
  have he' : e ∈ la' := by
    rw [h1] at he
    rcases List.mem_append.1 he with h3 | h3
    · have := h2 e h3; omega
    · exact h3
  have hs : (la'.map (·.1)).Pairwise (· < ·) := by
    have := h.r4.la.sorted
    rw [h1, List.map_append] at this
    exact (List.pairwise_append.1 this).2.1
  match la', he', hs, h with
  | (i, nb, sl) :: r, he', hs, h =>
    simp only [List.map_cons, List.pairwise_cons] at hs
    have hik : i = k := by
      rcases List.mem_cons.1 he' with rfl | h3
      · exact hi
      · have h4 := hs.1 e.1 (List.mem_map_of_mem h3)
        have h5 := h.rng (i, nb, sl) (by simp)
        simp at h5; omega
    subst hik
    obtain ⟨j', sb, h6, h7⟩ := h.r4.la.one (i, nb, sl) (h.mem (by simp))
    simp at h6 h7
    subst h6
    obtain rfl : j' = j := by omega
    exact ⟨nb, sb, r, rfl, fun e he => hs.1 e.1 (List.mem_map_of_mem he)⟩

theorem R8.split' {nb j sb : Nat} {la'' : List Ent} (h : R8 w wr fa fb va la k vr ((k, nb, [(j, sb)]) :: la'') lr) : ∃ pre, la = pre ++ la'' ∧ ∀ e ∈ pre, e.1 < k + 1 := by
  obtain ⟨pre, h1, h2⟩ := h.split
  refine ⟨pre ++ [(k, nb, [(j, sb)])], by rw [h1]; simp, fun e he => ?_⟩
  rcases List.mem_append.1 he with h3 | h3
  · exact Nat.lt_succ_of_lt (h2 e h3)
  · obtain rfl : e = (k, nb, [(j, sb)]) := by simpa using h3
    exact Nat.lt_succ_self _

theorem R8.drop {nb j sb : Nat} {la'' : List Ent} (h : R8 w wr fa fb va la k vr ((k, nb, [(j, sb)]) :: la'') lr) (hr : ∀ e ∈ la'', k + 1 ≤ e.1) (hH : HB fb k j) : R8 w wr fa fb va la (k + 1) vr la'' lr := by
  have hk : ¬ Kp (HB fb) (k, nb, [(j, sb)]) := fun x => x j (by simp [codes]) hH
  refine ⟨h.r4, h.lst, h.split', hr, ?_⟩
  rcases h.res with ⟨h1, _⟩ | ⟨_, h1, _⟩ | ⟨_, h1⟩
  · exact absurd (h1 _ (by simp)) hk
  · exact absurd h1 hk
  · exact h1

theorem res_all {H : Nat → Nat → Prop} : ∀ {l : List Ent}, (∀ e ∈ l, Kp H e) → Res H l l
  | [], _ => rfl
  | e :: l, h => .inl ⟨h, rfl⟩

theorem R8.keep {nb j sb : Nat} {la'' : List Ent} (h : R8 w wr fa fb va la k vr ((k, nb, [(j, sb)]) :: la'') lr) (hr : ∀ e ∈ la'', k + 1 ≤ e.1) (hH : ¬ HB fb k j) (hl : Lst fa fb 6 last) :
    ∃ nb' nx c lr'', vr = some ⟨nb', 0, none⟩ ∧ wr.heap[nb']? = some (placeObj w.heap.size k (some ⟨sb, 0, none⟩) nx) ∧ wr.heap[sb]? = some (slotObj w.heap.size j none c) ∧ (last < k → nb' = nb) ∧ R8 w wr fa fb va la (k + 1) nx la'' lr'' := by
  have hk : Kp (HB fb) (k, nb, [(j, sb)]) := fun x hx => by
    obtain rfl : x = j := by simpa [codes] using hx
    exact hH
  have key : ∃ nb' lr'', lr = (k, nb', [(j, sb)]) :: lr'' ∧ Res (HB fb) la'' lr'' ∧ (last < k → nb' = nb) := by
    rcases h.res with ⟨h1, h2⟩ | ⟨h1, _, nb', lr', h2, h3⟩ | ⟨h1, _⟩
    · exact ⟨nb, la'', h2, res_all (fun e he => h1 e (by simp [he])), fun _ => rfl⟩
    · refine ⟨nb', lr', h2, h3, fun h4 => absurd (fun e he => (kp_iff h.r4.la (h.mem he)).2 (hl.2.2 e.1 (h.r4.la.rng e (h.mem he)).2 ?_)) h1⟩
      have := h.rng e he; omega
    · exact absurd hk h1
  obtain ⟨nb', lr'', rfl, h2, h3⟩ := key
  obtain ⟨rfl, _, _, sv, nx, h4, h5, _, h6⟩ := h.lst
  obtain ⟨rfl, _, _, nx', c, h7, rfl⟩ := h5
  exact ⟨nb', nx, c, lr'', rfl, h4, h7, h3, h.r4, h6, h.split', hr, h2⟩

theorem R8.end (h : R8 w wr fa fb va la 6 vr la' lr) : vr = none := by
  have : la' = [] := List.eq_nil_iff_forall_not_mem.2 fun e he => by
    have h1 := h.rng e he
    have h2 := (h.r4.la.rng e (h.mem he)).2
    omega
  subst this
  obtain rfl : lr = [] := h.res
  exact h.lst
end
end Go.Proofs.Ybulkaala.B
