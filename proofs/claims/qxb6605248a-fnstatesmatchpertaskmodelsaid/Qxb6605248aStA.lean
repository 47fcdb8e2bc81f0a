/- A store at a key THAT IS THERE while ranging over the map. -/
import Derived.Maps.RangeWalk
set_option linter.unusedVariables false
namespace Go.Proofs.Qxb6605248a
open Go.ChangeMaps Go.MapKept Go.WideShapes
open Go.WideElems (Fit rd rg pl rd_key rd_val rg_of other_key rd_mk)
open Go.Maps (Keyed)

theorem filter_born (seen : Array Nat) (l l' : List MapEntry) (h : l'.map (·.born) = l.map (·.born)) : (l'.filter fun e => !seen.contains e.born).length = (l.filter fun e => !seen.contains e.born).length := by
  have e : ∀ x : List MapEntry, (x.filter fun e => !seen.contains e.born).length = ((x.map (·.born)).filter fun n => !seen.contains n).length := fun x => by
    rw [List.filter_map, List.length_map]
    rfl
  rw [e, e, h]

/-- 'm[k] = v' IN THE ROUND, at a key that is there -/
theorem ranges_put {H : Type} {P : Program} {k t e : TypeId} {R : Value → Option (DataW H × List MemPlace)} {w : World} {b r n : Nat} {D : DataW H} {left : Lit → Bool} {cnt : Nat}
    (h : w.ranges P k R b r n D left cnt) (K : Keyed P k) (ht : P.underlying t = some (.map k e)) (hn : n < maxLen) {key val : Value} {kl : Lit} {d : DataW H} {ps : List MemPlace}
    (hkey : keyOf P k key = some kl) (hv : R val = some (d, ps)) (hthere : Maps.has D kl = true) :
    ∃ w', (Instr.mapUpdate t (.map (some b)) key val).run P w = .ok () w' ∧ w'.ranges P k R b r n (D.put kl d) left cnt ∧ w.grownBy w' (some b) ∧ w'.heap.size = w.heap.size := by
  have hne := h.ne
  obtain ⟨es, clock, since, seen, c0, hb, F, hs, rfl, hr, hold, rfl, hl1, hl2, hsc, hsk⟩ := h
  obtain ⟨es', clock', hrun, F', hput, _⟩ := Maps.fit_store (R' := R) K ht hb F (Nat.lt_of_le_of_lt hs hn) (fun _ _ _ _ hz => hz) hkey hv
  rcases K.find w hkey es.toList F.keys with ⟨h1, h2⟩ | ⟨j, e0, h1, h2, h3⟩
  · exfalso
    obtain ⟨p, hp, hpk⟩ := List.any_eq_true.1 hthere
    obtain ⟨x, hx, rfl⟩ := List.mem_map.1 (mem_sorted.1 hp)
    have e1 := WideAt.sameKey_eq hpk
    obtain ⟨y, hy⟩ := F.reads x hx
    rw [rg_of hy] at e1
    exact h2 x hx (K.inj (e1 ▸ rd_key hy) hkey)
  · have hj : es[j]? = some e0 := by simpa using h2
    have hrun2 : (Instr.mapUpdate t (.map (some b)) key val).run P w = .ok () (setBlock w b (.map (es.modify j (fun e' => { e' with key := key, val := val })) clock)) := by
      simp [Instr.mapUpdate, run_underlying ht, MapKept.run_getObj_map hb, K.check w false hkey, h1, hj, h3, K.stays w hkey, MapKept.run_setObj_map _ hb, Result.andThen, setBlock]
    have hw := hrun.symm.trans hrun2
    have hh : (setBlock w b (.map es' clock')).heap[b]? = (setBlock w b (.map (es.modify j (fun e' => { e' with key := key, val := val })) clock)).heap[b]? := by
      injection hw with _ hw
      rw [hw]
    rw [heap_setBlock_same hb, heap_setBlock_same hb] at hh
    simp only [Option.some.injEq, Obj.map.injEq] at hh
    obtain ⟨he, rfl⟩ := hh
    have hlist : es'.toList = es.toList.set j { e0 with key := key, val := val } := by rw [he, Array.toList_modify, modify_eq_set _ _ _ _ h2]
    have hrgn : rg P k R { e0 with key := key, val := val } = (kl, d) := rg_of (rd_mk hkey hv)
    have hrg0 : (rg P k R e0).1 = kl := by
      obtain ⟨y, hy⟩ := F.reads e0 (List.mem_of_getElem? h2)
      have := rd_key hy
      rw [h3, hkey] at this
      rw [rg_of hy]
      exact (Option.some.inj this).symm
    have back : ∀ x' ∈ es'.toList, ∃ x ∈ es.toList, x'.born = x.born ∧ (rg P k R x').1 = (rg P k R x).1 := by
      intro x' hx'
      rw [hlist] at hx'
      rcases List.mem_or_eq_of_mem_set hx' with h | h
      · exact ⟨x', h, rfl, rfl⟩
      · subst h
        exact ⟨e0, List.mem_of_getElem? h2, rfl, by rw [hrgn, hrg0]⟩
    have hjl : j < es.toList.length := (List.getElem?_eq_some_iff.1 h2).1
    have forth : ∀ x ∈ es.toList, ∃ x' ∈ es'.toList, (rg P k R x').1 = (rg P k R x).1 := by
      intro x hx
      obtain ⟨i, hi⟩ := List.getElem?_of_mem hx
      rw [hlist]
      by_cases e1 : i = j
      · subst e1
        rw [h2] at hi
        cases hi
        exact ⟨_, List.mem_iff_getElem?.2 ⟨i, by rw [List.getElem?_set_self hjl]⟩, by rw [hrgn, hrg0]⟩
      · exact ⟨x, List.mem_iff_getElem?.2 ⟨i, by rw [List.getElem?_set_ne (fun h => e1 h.symm), hi]⟩, rfl⟩
    have hborn : es'.toList.map (·.born) = es.toList.map (·.born) := by
      rw [hlist, List.map_set]
      refine List.ext_getElem? (fun i => ?_)
      rw [List.getElem?_set]
      split
      · rename_i e1
        subst e1
        rw [if_pos (by simpa using hjl), List.getElem?_map, h2]
        rfl
      · rfl
    refine ⟨_, hrun, ⟨es', clock', since, seen, c0, heap_setBlock_same hb _, F', ?_, by rw [DataW.put_eq, hput], (heap_setBlock_other hb _ hne).trans hr, ?_, ?_, ?_, ?_, hsc, hsk⟩, ⟨rfl, rfl, rfl, by simp [setBlock], fun i _ hi => heap_setBlock_other hb _ (fun e => hi (by rw [e]))⟩, by simp [setBlock]⟩
    · have : es'.toList.length = es.toList.length := by rw [hlist, List.length_set]
      simpa [this] using (show es'.size ≤ n by have h5 : es'.size = es.size := by simpa using this
                                               omega)
    · intro x hx
      obtain ⟨y, hy, e1, _⟩ := back x hx
      rw [e1]
      exact hold y hy
    · have e1 : ∀ a : Array MapEntry, (leftOf a seen).size = (a.toList.filter fun e => !seen.contains e.born).length := fun a => by
        unfold leftOf
        rw [← Array.toList_filter, Array.length_toList]
      rw [e1, e1]
      exact filter_born seen _ _ hborn
    · intro x hx
      obtain ⟨y, hy, e1, e2⟩ := back x hx
      rw [e2, e1]
      exact hl1 y hy
    · intro kl' hkl'
      obtain ⟨x, hx, e1⟩ := hl2 kl' hkl'
      obtain ⟨x', hx', e2⟩ := forth x hx
      exact ⟨x', hx', e2.trans e1⟩
end Go.Proofs.Qxb6605248a
