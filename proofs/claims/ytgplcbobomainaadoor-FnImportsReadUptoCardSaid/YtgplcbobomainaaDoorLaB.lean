/-
  How long what is read is, and the literals.
-/
import Derived.Test.YtgplcbobomainaaDoorLaA
namespace Go.Proofs.YtgplcbobomainaaDoor
set_option linter.unusedVariables false
set_option linter.unusedSimpArgs false

def Short (n : Nat) (L : List (List UInt8)) : Prop := ∀ b ∈ L, b.length ≤ n
theorem Short.nil {n : Nat} : Short n [] := fun b h => by cases h
theorem Short.app {n : Nat} {L M : List (List UInt8)} (h : Short n L) (k : Short n M) : Short n (L ++ M) := fun b hb => by
  rcases List.mem_append.1 hb with hb | hb
  · exact h b hb
  · exact k b hb
theorem Short.mono {n m : Nat} {L : List (List UInt8)} (h : Short n L) (hm : n ≤ m) : Short m L := fun b hb => Nat.le_trans (h b hb) hm
def RS.all (S : RS) : Nat := S.buf.length + S.rest.length
theorem Le.allE {S' S : RS} (h : Le S' S) : S'.all = S.all := h.total
theorem saved_short {k : Nat} {x : RS × Bool} : Short x.1.all (saved k x) := by
  unfold saved
  split
  · intro b hb
    rw [List.mem_singleton] at hb
    subst hb
    rw [List.length_drop]
    unfold RS.all; omega
  · exact Short.nil
theorem str_short (S : RS) : Short S.all (str S).2 := by
  unfold str
  split
  · rw [← ((raw_le _).trans (nx_le true S)).allE]; exact saved_short
  · split
    · rw [← ((quo_le _).trans (nx_le true S)).allE]; exact saved_short
    · exact Short.nil
theorem imp_short (S : RS) : Short S.all (imp S).2 := by
  unfold imp
  rw [← (name_le S).allE]
  exact str_short _
theorem grp_short (S : RS) : Short S.all (grp S).2 := by
  induction S using grp.induct with
  | case1 S h ih =>
    rw [grp, dif_pos h]
    rw [((imp_le (pk true S).1).trans (pk_le true S)).allE] at ih
    refine Short.app ?_ ih
    rw [← (pk_le true S).allE]
    exact imp_short _
  | case2 S h => rw [grp, dif_neg h]; exact Short.nil
theorem decl_short (K : RS) : Short K.all (decl K).2 := by
  unfold decl
  split
  · rw [← ((nx_le false _).trans (pk_le true K)).allE]
    exact grp_short _
  · rw [← (pk_le true K).allE]
    exact imp_short _
theorem ims_short (S : RS) : Short S.all (ims S).2 := by
  induction S using ims.induct with
  | case1 S h ih =>
    rw [ims, dif_pos h]
    have e := ((decl_le (kw importK (pk true S).1)).trans ((kw_le importK (pk true S).1).trans (pk_le true S))).allE
    rw [e] at ih
    refine Short.app ?_ ih
    rw [← ((kw_le importK (pk true S).1).trans (pk_le true S)).allE]
    exact decl_short _
  | case2 S h => rw [ims, dif_neg h]; exact Short.nil
theorem ims_rest (S : RS) : (ims S).2.length + (ims S).1.rest.length ≤ S.rest.length := by
  induction S using ims.induct with
  | case1 S h ih =>
    rw [ims, dif_pos h]
    have h1 := decl_rest (kw importK (pk true S).1)
    have h2 := ((kw_le importK (pk true S).1).trans (pk_le true S)).rest
    simp only [List.length_append]
    omega
  | case2 S h =>
    rw [ims, dif_neg h]
    have := (pk_le true S).rest
    simpa using this
theorem start_all (data : List UInt8) : (start data).all ≤ data.length ∧ (start data).rest.length ≤ data.length := by
  have h : (start data).rest.length ≤ data.length := by
    rw [start_rest]
    show (StartRest data).length ≤ _
    unfold StartRest
    split
    · rw [List.length_drop]; omega
    · exact Nat.le_refl _
  exact ⟨by unfold RS.all; show 0 + _ ≤ _; omega, h⟩
theorem stop_short (data : List UInt8) : Short data.length (stop data).2 ∧ (stop data).2.length ≤ data.length := by
  have h := start_all data
  have hle := ((ident_le (kw packageK (start data))).trans (kw_le _ _))
  constructor
  · unfold stop
    have := ims_short (ident (kw packageK (start data)))
    rw [hle.allE] at this
    exact this.mono h.1
  · have := ims_rest (ident (kw packageK (start data)))
    have := hle.rest
    unfold stop
    omega
theorem buf_short {S : RS} {data : List UInt8} (h : Le S (start data)) : S.buf.length ≤ data.length := by
  have h1 := h.allE
  have h2 := (start_all data).1
  unfold RS.all at h1 h2
  omega
theorem readIm_short {rep : Bool} {data o : List UInt8} {L : List (List UInt8)} (h : readIm rep data = some (o, L)) : o.length ≤ data.length ∧ Short data.length L ∧ L.length ≤ data.length := by
  have hs := stop_short data
  have hb := buf_short (stop_le data)
  unfold readIm at h
  split at h
  · injection h with h; injection h with h1 h2
    subst h1; subst h2
    exact ⟨by rw [List.length_dropLast]; omega, hs⟩
  · split at h
    · split at h
      · injection h with h; injection h with h1 h2
        subst h1; subst h2
        have hle : Le { (stop data).1 with err := Er.no } (start data) := ⟨(stop_le data).mu0, fun _ => rfl, (stop_le data).ext⟩
        exact ⟨buf_short ((whole_le _).trans hle), hs⟩
      · cases h
    · split at h
      · injection h with h; injection h with h1 h2
        subst h1; subst h2
        exact ⟨hb, hs⟩
      · cases h
theorem readCm_short {data c : List UInt8} (h : readCm data = some c) : c.length ≤ data.length := by
  have hb := buf_short (pk_le true (start data))
  unfold readCm at h
  split at h
  · injection h with h
    subst h
    split
    · exact hb
    · rw [List.length_dropLast]; omega
  · cases h
end Go.Proofs.YtgplcbobomainaaDoor
