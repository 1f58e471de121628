/-
  SEAT b6614702aD: plain laws of a scale of grades no two alike, and of one grade put in (no Go in sight).
-/
import Derived.Test.Qxb6614702aDoorPlain
namespace Go.Proofs.Qxb6614702aDoor

theorem nodup_of_takes (l : List ByteArray) (h : ∀ i (hi : i < l.length), isIn (l.take i) l[i] = false) : l.Nodup := by
  rw [List.nodup_iff_pairwise_ne, List.pairwise_iff_getElem]
  intro i j hi hj hij e
  have h1 := isIn_false.1 (h j hj)
  apply h1
  rw [← e]
  exact List.mem_iff_getElem.2 ⟨i, by rw [List.length_take]; omega, by simp⟩

theorem nodup_not_drop {l : List ByteArray} (h : l.Nodup) (j : Nat) (hj : j < l.length) : l[j] ∉ l.drop (j + 1) := by
  intro hm
  obtain ⟨k, hk, e⟩ := List.mem_iff_getElem.1 hm
  rw [List.length_drop] at hk
  rw [List.getElem_drop] at e
  rw [List.nodup_iff_pairwise_ne, List.pairwise_iff_getElem] at h
  exact h j (j + 1 + k) hj (by omega) (by omega) e.symm

theorem rankI_nodup {l : List ByteArray} (h : l.Nodup) (j : Nat) (hj : j < l.length) : rankI l l[j] = some ((l.length : Int) - j) := rankI_last l j hj (nodup_not_drop h j hj)

theorem dist_nodup : ∀ {l : List ByteArray}, l.Nodup → dist l = l.length
  | [], _ => rfl
  | g :: r, h => by
    rw [List.nodup_cons] at h
    rw [dist, if_neg (by rw [isIn_true]; exact h.1), dist_nodup h.2]
    rfl

/-- g put in at place p. -/
def ins (l : List ByteArray) (g : ByteArray) (p : Nat) : List ByteArray := l.take p ++ g :: l.drop p

theorem ins_length (l : List ByteArray) (g : ByteArray) (p : Nat) (hp : p ≤ l.length) : (ins l g p).length = l.length + 1 := by
  simp [ins]; omega

theorem ins_nodup {l : List ByteArray} (h : l.Nodup) {g : ByteArray} (hg : g ∉ l) (p : Nat) : (ins l g p).Nodup := by
  have e : (l.take p ++ l.drop p).Nodup := by rw [List.take_append_drop]; exact h
  have hgt : g ∉ l.take p := fun h => hg (List.mem_of_mem_take h)
  have hgd : g ∉ l.drop p := fun h => hg (List.mem_of_mem_drop h)
  rw [List.nodup_append] at e
  unfold ins
  rw [List.nodup_append]
  refine ⟨e.1, List.nodup_cons.2 ⟨hgd, e.2.1⟩, fun a ha b hb => ?_⟩
  rcases List.mem_cons.1 hb with rfl | hb
  · exact fun e => hgt (e ▸ ha)
  · exact e.2.2 a ha b hb

theorem ins_rank {l : List ByteArray} (h : l.Nodup) {g : ByteArray} (hg : g ∉ l) (p : Nat) (hp : p ≤ l.length) (i : Nat) (hi : i < l.length) :
    rankI (ins l g p) l[i] = some (if i < p then (l.length : Int) + 1 - i else (l.length : Int) - i) := by
  have hn := ins_nodup h hg p
  have hl := ins_length l g p hp
  by_cases hip : i < p
  · have e : (ins l g p)[i]'(by omega) = l[i] := by
      unfold ins
      rw [List.getElem_append_left (by rw [List.length_take]; omega), List.getElem_take]
    have := rankI_nodup hn i (by omega)
    rw [e, hl] at this
    rw [if_pos hip, this]
    congr 1
  · have e : (ins l g p)[i + 1]'(by omega) = l[i] := by
      unfold ins
      rw [List.getElem_append_right (by rw [List.length_take]; omega)]
      have e2 : i + 1 - (l.take p).length = (i - p) + 1 := by rw [List.length_take]; omega
      simp only [e2, List.getElem_cons_succ, List.getElem_drop]
      congr 1
      omega
    have := rankI_nodup hn (i + 1) (by omega)
    rw [e, hl] at this
    rw [if_neg hip, this]
    congr 1
    omega

theorem ins_rank_g {l : List ByteArray} (h : l.Nodup) {g : ByteArray} (hg : g ∉ l) (p : Nat) (hp : p ≤ l.length) : rankI (ins l g p) g = some ((l.length : Int) + 1 - p) := by
  have hn := ins_nodup h hg p
  have hl := ins_length l g p hp
  have e : (ins l g p)[p]'(by omega) = g := by
    unfold ins
    rw [List.getElem_append_right (by rw [List.length_take]; omega)]
    have e2 : p - (l.take p).length = 0 := by rw [List.length_take]; omega
    simp only [e2, List.getElem_cons_zero]
  have := rankI_nodup hn p (by omega)
  rw [e, hl] at this
  rw [this]
  congr 1

theorem ins_dist {l : List ByteArray} (h : l.Nodup) {g : ByteArray} (hg : g ∉ l) (p : Nat) (hp : p ≤ l.length) : dist (ins l g p) = l.length + 1 := by
  rw [dist_nodup (ins_nodup h hg p), ins_length l g p hp]

theorem rankI_none {l : List ByteArray} {g : ByteArray} (hg : g ∉ l) : rankI l g = none := by
  rw [rankI, (rank_none_iff g l).2 hg]; rfl

end Go.Proofs.Qxb6614702aDoor
