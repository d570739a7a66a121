/- The end of a row of this form: true, and all that stood before stands as it stood. Of no program. -/
import Derived.Test.YtbnepbdlhpkiiaaDoorSxBase
import Derived.ReadAgain
import Derived.ChangeSame
import Derived.Lib.LaidTab
namespace Go.Sx

section
variable {H : Type} {enc : TypeId × Value → H} {P : Program} {W W' : World}

theorem sameAt_of_sub (hs : Sub W.heap W'.heap) : ∀ p : MemPlace, p.block < W.heap.size → W.sameAt W' p
  | .cell b off, h => by
    have := hs b h
    show W'.cell? ⟨b, off, none⟩ = W.cell? ⟨b, off, none⟩
    simp only [World.cell?, this]
  | .map b, h => hs b h

theorem trodAll_carry {base : Nat} {spare : Nat → Bool} {held : Bool} : ∀ {ts : List TypeId} {vs : List Value} {ds : List (DataW H)} {ps : List MemPlace}, DataW.TrodAll enc P W base spare held ts vs ds ps → (∀ p ∈ ps, W.sameAt W' p) →
    DataW.TrodAll enc P W' base spare held ts vs ds ps
  | [], [], [], _, h, _ => h
  | _ :: _, _ :: _, _ :: _, _, ⟨p, q, ⟨n, h1⟩, h2, e⟩, hs => ⟨p, q, ⟨n, DataW.trod_carry n _ _ _ h1 (fun x hx => hs x (by rw [e]; exact List.mem_append_left _ hx))⟩,
      trodAll_carry h2 (fun x hx => hs x (by rw [e]; exact List.mem_append_right _ hx)), e⟩

theorem trodVars_carry {T : TypeId → Prop} {spare : Nat → Bool} (K : Kids P T) (hz : ∀ t e, T t → P.underlying t = some (.slice e) → 0 < P.cellsOf e) (hsub : Sub W.heap W'.heap) :
    ∀ {ns : List String} {ds : List (DataW H)} {ps : List MemPlace}, (∀ n ∈ ns, ∀ g t, P.globalNamed n = some g → (P.globals[g]?).map (·.type) = some t → T t) → DataW.TrodVars enc P W (fun _ => true) ns ds ps →
      (∀ p ∈ ps, p.block < W.heap.size ∧ spare p.block = true) → DataW.TrodVars enc P W' spare ns ds ps
  | [], [], _, _, h, _ => h
  | n :: ns, d :: ds, ps, hT, ⟨g, t, cs, fuel, p, q, h1, h2, h3, h4, h5, e⟩, hs => by
    refine ⟨g, t, cs, fuel, p, q, h1, h2, ?_, ?_, trodVars_carry K hz hsub (fun m hm => hT m (List.mem_cons_of_mem _ hm)) h5 (fun x hx => hs x (by rw [e]; exact List.mem_append_right _ hx)), e⟩
    · unfold World.var? at h3 ⊢
      rw [h1] at h3 ⊢
      rw [Option.bind_some] at h3 ⊢
      have hg : g < W.heap.size := by
        rcases Nat.lt_or_ge g W.heap.size with hl | hl
        · exact hl
        · simp [Array.getElem?_eq_none hl] at h3
      rw [hsub g hg]
      exact h3
    · refine DataW.trod_carry _ _ _ _ (DataW.trod_respare K hz fuel t cs.toList _ (hT n (List.mem_cons_self ..) g t h1 h2) h4 (fun x hx => (hs x ?_).2)) (fun x hx => sameAt_of_sub hsub x (hs x ?_).1)
      all_goals rw [e]; exact List.mem_append_left _ (List.mem_append_right _ hx)

theorem keptBut_of_sub (hs : Sub W.heap W'.heap) (hos : W'.os = W.os) (hout : W'.output = W.output) (may : MemPlace → Prop) : W.keptBut W' may := by
  refine ⟨hos, hout, fun i hi => ?_⟩
  rw [hs i hi]
  have := Array.getElem?_eq_getElem hi
  rw [this]
  cases W.heap[i] <;> simp

theorem post_true {f : Func} {s : ChangeSpec} {apart fresh handsOn : Bool} {args : Array Value} {ds gs : List (DataW H)} {before : List MemPlace} {T : TypeId → Prop} {b : TypeId}
    (hW : DataW.Whole enc P f.params.toList s.vars apart W args.toList ds gs before) (hs : Sub W.heap W'.heap) (hos : W'.os = W.os) (hout : W'.output = W.output)
    (K : Kids P T) (hz : ∀ t e, T t → P.underlying t = some (.slice e) → 0 < P.cellsOf e) (hT : ∀ t ∈ f.params.toList, T t)
    (hV : ∀ n ∈ s.vars, ∀ g t, P.globalNamed n = some g → (P.globals[g]?).map (·.type) = some t → T t)
    (hr : f.resultTypes = #[b]) (hb : P.underlying b = some .bool) (hfn : s.fn H (ds ++ gs) = { results := [.lit (.bool true)], args := ds, vars := gs }) :
    s.post enc P f apart fresh handsOn false W args (.bool true) W' := by
  have hlt := hW.lt
  obtain ⟨p, q, hA, hVs, hpq, _, _⟩ := id hW
  have hlp : ∀ x ∈ p, x.block < W.heap.size := fun x hx => hlt x (by rw [hpq]; exact List.mem_append_left _ hx)
  have hlq : ∀ x ∈ q, x.block < W.heap.size := fun x hx => hlt x (by rw [hpq]; exact List.mem_append_right _ hx)
  refine ⟨ds, gs, before, [], p, q, hW, ?_, ?_, ?_, keptBut_of_sub hs hos hout _, fun h => by cases h⟩
  · rw [hfn, hr]
    exact ⟨[], [], ⟨1, by simp [DataW.trod, hb, Value.cells]⟩, rfl, rfl⟩
  · rw [hfn]
    refine trodAll_carry (DataW.TrodAll.respare K hz hT hA (fun x hx => by simpa using hlp x hx)) (fun x hx => sameAt_of_sub hs x (hlp x hx))
  · rw [hfn]
    exact trodVars_carry K hz hs hV hVs (fun x hx => ⟨hlq x hx, by simpa using hlq x hx⟩)
end
end Go.Sx
