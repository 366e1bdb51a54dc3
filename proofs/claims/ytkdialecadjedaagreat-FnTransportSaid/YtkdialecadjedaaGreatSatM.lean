/- Many blocks of one's own behind a row of pointers (no statement of the seat is proved here; conditions: none). -/
import Derived.Test.YtkdialecadjedaaGreatSat2
namespace Go.Proofs.YtkdialecadjedaaGreat
set_option linter.unusedVariables false
set_option linter.unusedSimpArgs false
set_option linter.unusedSectionVars false
open Go

theorem Sat.conv {F : Fr} {w : World} {ex ex' : List Ex} {ro : List Ro} (H : Sat F w ex ro) (hp : (foots ex).Perm (foots ex')) (hex : ∀ G : Nat → Prop, (∀ e ∈ ex, Ex.holds w G e) → ∀ e ∈ ex', Ex.holds w G e) : Sat F w ex' ro := by
  have hG : (fun b => b ∉ foots ex) = (fun b => b ∉ foots ex') := funext fun b => propext (not_congr hp.mem_iff)
  exact ⟨H.gr, hp.nodup_iff.1 H.nd, fun b hb => H.lt b (hp.mem_iff.2 hb), fun e he => by rw [← hG]; exact hex _ H.he e he, fun r hr => by rw [← hG]; exact H.hr r hr⟩
theorem erase_perm {α : Type} (bs : List α) (i : Nat) (hlt : i < bs.length) : bs.Perm (bs[i] :: bs.eraseIdx i) := by
  have e : bs = bs.take i ++ bs[i] :: bs.drop (i + 1) := by rw [← List.drop_eq_getElem_cons hlt, List.take_append_drop]
  have h := (List.Perm.of_eq e).trans List.perm_middle
  rwa [← List.eraseIdx_eq_take_drop_succ] at h
theorem Sat.manyOut {F : Fr} {w : World} {t : TypeId} {bs : List (Nat × List Value)} {ex : List Ex} {ro : List Ro} (H : Sat F w (.many t bs :: ex) ro) {i b : Nat} {l : List Value} (hi : bs[i]? = some (b, l)) : Sat F w (.blk b t l :: .many t (bs.eraseIdx i) :: ex) ro := by
  obtain ⟨hlt, hb⟩ := List.getElem?_eq_some_iff.1 hi
  refine H.conv ?_ (fun G h e he => ?_)
  · simp only [foots_cons, Ex.foot, ← List.append_assoc]
    refine List.Perm.append_right _ ?_
    have h1 : bs.Perm ((b, l) :: bs.eraseIdx i) := by
      rw [← hb]
      exact erase_perm bs i hlt
    have := h1.map (·.1)
    simpa using this
  · have hm : ∀ p ∈ bs, Blk w p.1 t p.2 := h (.many t bs) (by simp)
    simp only [List.mem_cons] at he
    rcases he with rfl | rfl | he
    · exact hm (b, l) (List.mem_of_getElem? hi)
    · exact fun p hp => hm p (List.mem_of_mem_eraseIdx hp)
    · exact h e (by simp [he])
theorem Sat.manyIn {F : Fr} {w : World} {t : TypeId} {bs : List (Nat × List Value)} {ex : List Ex} {ro : List Ro} {i b : Nat} {l l' : List Value} (H : Sat F w (.blk b t l' :: .many t (bs.eraseIdx i) :: ex) ro) (hi : bs[i]? = some (b, l)) : Sat F w (.many t (bs.set i (b, l')) :: ex) ro := by
  obtain ⟨hlt, hb⟩ := List.getElem?_eq_some_iff.1 hi
  refine H.conv ?_ (fun G h e he => ?_)
  · simp only [foots_cons, Ex.foot, ← List.append_assoc]
    refine List.Perm.append_right _ ?_
    have h1 : bs.Perm ((b, l) :: bs.eraseIdx i) := by
      rw [← hb]
      exact erase_perm bs i hlt
    have h2 : (bs.set i (b, l')).map (·.1) = bs.map (·.1) := by
      rw [List.map_set]
      apply List.ext_getElem?
      intro k
      rw [List.getElem?_set]
      split
      · rename_i hk; subst hk; simp [hlt, hb]
      · rfl
    rw [h2]
    have := (h1.map (·.1)).symm
    simpa using this
  · have hm : ∀ p ∈ bs.eraseIdx i, Blk w p.1 t p.2 := h (.many t (bs.eraseIdx i)) (by simp)
    have hbk : Blk w b t l' := h (.blk b t l') (by simp)
    simp only [List.mem_cons] at he
    rcases he with rfl | he
    · intro p hp
      obtain ⟨k, hk⟩ := List.getElem?_of_mem hp
      rw [List.getElem?_set] at hk
      split at hk
      · rename_i hki
        subst hki
        first
          | (cases hk; exact hbk)
          | (rw [if_pos hlt] at hk; cases hk; exact hbk)
      · rename_i hki
        refine hm p ?_
        rw [List.mem_eraseIdx_iff_getElem?]
        exact ⟨k, Ne.symm hki, hk⟩
    · exact h e (by simp [he])
theorem Sat.manyPush {F : Fr} {w : World} {t : TypeId} {bs : List (Nat × List Value)} {ex : List Ex} {ro : List Ro} {b : Nat} {l : List Value} (H : Sat F w (.blk b t l :: .many t bs :: ex) ro) : Sat F w (.many t (bs ++ [(b, l)]) :: ex) ro := by
  refine H.conv ?_ (fun G h e he => ?_)
  · simp only [foots_cons, Ex.foot, ← List.append_assoc, List.map_append, List.map_cons, List.map_nil]
    exact List.Perm.append_right _ List.perm_append_comm
  · have hm : ∀ p ∈ bs, Blk w p.1 t p.2 := h (.many t bs) (by simp)
    have hbk : Blk w b t l := h (.blk b t l) (by simp)
    simp only [List.mem_cons] at he
    rcases he with rfl | he
    · intro p hp
      rcases List.mem_append.1 hp with hp | hp
      · exact hm p hp
      · simp only [List.mem_singleton] at hp; subst hp; exact hbk
    · exact h e (by simp [he])
theorem Sat.noMany {F : Fr} {w : World} {ex : List Ex} {ro : List Ro} (H : Sat F w ex ro) (t : TypeId) : Sat F w (.many t [] :: ex) ro :=
  H.conv (by simp [foots_cons, Ex.foot]) (fun G h e he => by
    rcases List.mem_cons.1 he with rfl | he
    · intro p hp; cases hp
    · exact h e he)
/-- The pointers' row and what they point to are read alone. -/
theorem Sat.manyFreeze {F : Fr} {w : World} {t e : TypeId} {a : Option Addr} {n c : Nat} {r : Option Nat} {bs : List (Nat × List Value)} {ex : List Ex} {ro : List Ro}
    (H : Sat F w (.own e 1 a n c r (bs.map fun p => .one (.pointer (some ⟨p.1, 0, none⟩))) :: .many t bs :: ex) ro) : Sat F w ex (.deep [.row 1 (bs.map fun p => .ptr (p.2.map .one))] [.slice a n c] :: ro) := by
  have H1 := H.freeze
  have hd := H1.deep1 List.mem_cons_self
  have H2 := H.sub (ex' := ex) (ro' := ro) ((List.sublist_cons_self _ _).trans (List.sublist_cons_self _ _)) (fun _ h => h)
  have hm : ∀ p ∈ bs, Blk w p.1 t p.2 := H1.he (.many t bs) (by simp)
  have hnd := H1.nd
  rw [foots_cons, List.nodup_append] at hnd
  have hG : ∀ b, b ∉ foots (.many t bs :: ex) → b ∉ foots ex := fun b hn h => hn (by rw [foots_cons, List.mem_append]; exact .inr h)
  have hp : ∀ p ∈ bs, p.1 ∉ foots ex := fun p hp h => hnd.2.2 p.1 (by simp only [Ex.foot, List.mem_map]; exact ⟨p, hp, rfl⟩) p.1 h rfl
  have hptr : ∀ p ∈ bs, Deep w (fun b => b ∉ foots ex) (.ptr (p.2.map .one)) (.pointer (some ⟨p.1, 0, none⟩)) := fun p hpb =>
    .ptr p.1 t (0, 0) _ p.2 (hp p hpb) (hm p hpb).eq (by simp) (DeepL.ones p.2).2
  refine H2.addRo (DeepL.cons ?_ (DeepL.nil _ _))
  generalize hA : (Value.slice a n c) = v at hd ⊢
  have key : ∀ vs : List Value, DeepL w (fun b => b ∉ foots (.many t bs :: ex)) (bs.map fun p => .one (.pointer (some ⟨p.1, 0, none⟩))) vs → DeepL w (fun b => b ∉ foots ex) (bs.map fun p => .ptr (p.2.map .one)) vs := by
    intro vs hL
    refine ⟨by simpa using hL.1, fun i d u h1 h2 => ?_⟩
    rw [List.getElem?_map] at h1
    cases hi : bs[i]? with
    | none => rw [hi] at h1; cases h1
    | some p =>
      rw [hi] at h1
      cases h1
      have := hL.2 i (.one (.pointer (some ⟨p.1, 0, none⟩))) u (by rw [List.getElem?_map, hi]; rfl) h2
      cases this
      exact hptr p (List.mem_of_getElem? hi)
  subst hA
  cases hdc : bs with
  | nil => subst hdc; cases hd with
    | emp => exact .emp _ _
    | row _ b o n c ds vs hnc hc hlt hGb hl hv hcell hdd =>
      have := key vs ⟨hv, hdd⟩
      exact .row 1 b o _ _ _ vs hnc hc hlt (hG b hGb) hl (by simpa using hv) hcell this.2
  | cons q qs =>
    rw [← hdc]
    generalize hds : (bs.map fun p => Dat.one (.pointer (some ⟨p.1, 0, none⟩))) = ds at hd
    cases hd with
    | emp => rw [hdc] at hds; cases hds
    | row _ b o n c ds vs hnc hc hlt hGb hl hv hcell hdd =>
      subst hds
      have := key vs ⟨hv, hdd⟩
      exact .row 1 b o _ _ _ vs hnc hc hlt (hG b hGb) (by simpa using hl) (by simpa using hv) hcell this.2
end Go.Proofs.YtkdialecadjedaaGreat
