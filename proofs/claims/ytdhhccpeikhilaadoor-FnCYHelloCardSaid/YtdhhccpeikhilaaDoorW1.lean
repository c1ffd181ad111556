/- What the row of FnCYHello says of io.ErrUnexpectedEOF: the variable holds a pointer to an errors.errorString. -/
import Derived.Test.YtdhhccpeikhilaaDoorW0
import Derived.Test.YtdhhccpeikhilaaDoorE0
namespace Go.Proofs.YtdhhccpeikhilaaDoor
open Go.ChangeShapes Go.WideShapes Go.ChangeAt Go.RowKit Go.Proofs.YtdhhccpeikhilaaDoor

theorem g_eof : Tryd.prog.globalNamed "io.ErrUnexpectedEOF" = some 0 := by kernel_rfl
theorem gt_eof : (Tryd.prog.globals[0]?).map (·.type) = some 64 := by kernel_rfl
def plainMade : TypeDesc → Bool
  | .slice _ | .map _ _ | .chan _ _ | .func _ _ _ | .array _ _ | .struct _ => true
  | _ => false

theorem reckoned {info : TypeId → Option TypeInfo} {d : TypeDesc} {i : TypeInfo} (h : Made.reckon info d = some i) :
    (∃ e ie, i.desc = .pointer e ∧ info e = some ie ∧ ∀ n m, ie.desc ≠ .named n m) ∨ plainMade i.desc = true := by
  unfold Made.reckon at h
  split at h
  · rename_i e
    cases he : info e with
    | none => rw [he] at h; cases h
    | some ie =>
      rw [he] at h
      have h : (match ie.desc with
        | TypeDesc.named name underlying => none
        | TypeDesc.struct fs =>
          if (fs.any fun x => x.embedded) = true then none
          else (Made.spell ie).bind fun s => some (Made.word (TypeDesc.pointer e) ("*" ++ s) (Value.pointer none) true)
        | x => (Made.spell ie).bind fun s => some (Made.word (TypeDesc.pointer e) ("*" ++ s) (Value.pointer none) true)) = some i := h
      left
      refine ⟨e, ie, ?_, he, fun n m hn => ?_⟩
      · split at h
        · cases h
        · split at h
          · cases h
          · obtain ⟨s, _, hs⟩ := Option.bind_eq_some_iff.1 h
            injection hs with hs; subst hs; rfl
        · obtain ⟨s, _, hs⟩ := Option.bind_eq_some_iff.1 h
          injection hs with hs; subst hs; rfl
      · rw [hn] at h; cases h
  · right
    obtain ⟨a, _, h⟩ := Option.bind_eq_some_iff.1 h
    obtain ⟨b, _, h⟩ := Option.bind_eq_some_iff.1 h
    injection h with h; subst h; rfl
  · right
    obtain ⟨a, _, h⟩ := Option.bind_eq_some_iff.1 h
    obtain ⟨b, _, h⟩ := Option.bind_eq_some_iff.1 h
    obtain ⟨c, _, h⟩ := Option.bind_eq_some_iff.1 h
    obtain ⟨d, _, h⟩ := Option.bind_eq_some_iff.1 h
    injection h with h; subst h; rfl
  · right
    obtain ⟨a, _, h⟩ := Option.bind_eq_some_iff.1 h
    obtain ⟨b, _, h⟩ := Option.bind_eq_some_iff.1 h
    injection h with h; subst h; rfl
  · right
    obtain ⟨a, _, h⟩ := Option.bind_eq_some_iff.1 h
    injection h with h; subst h; rfl
  · right
    obtain ⟨a, _, h⟩ := Option.bind_eq_some_iff.1 h
    obtain ⟨b, _, h⟩ := Option.bind_eq_some_iff.1 h
    injection h with h; subst h; rfl
  · right
    unfold Made.reckonStruct at h
    obtain ⟨a, _, h⟩ := Option.bind_eq_some_iff.1 h
    (first | (injection h with h; subst h; rfl) | (dsimp only at h; split at h <;> (injection h with h; subst h; rfl)))
  · cases h

theorem names_few : ((List.range 400).all fun u => (Tryd.prog.typeName? 3 u != some "*errors.errorString") || u == 145) = true := by kernel_rfl
theorem names_few2 : ((List.range 400).all fun u => (Tryd.prog.typeName? 2 u != some "errors.errorString") || u == 147) = true := by kernel_rfl
theorem types_few : decide (Tryd.prog.types.size ≤ 400) = true := by kernel_rfl
theorem named_147 : (match (Tryd.prog.info? 147).map (·.desc) with | some (.named _ _) => true | _ => false) = true := by kernel_rfl

/-- A type of the table, or a made one. -/
theorem info_cases (u : Nat) (i : TypeInfo) (h : Tryd.prog.info? u = some i) : u < 400 ∨ ∃ d, Made.reckon (Made.infoAt Tryd.prog.toTables 99) d = some i := by
  have hs := of_decide_eq_true types_few
  rcases Nat.lt_or_ge u 400 with hu | hu
  · exact .inl hu
  · right
    have hn : ¬ u < Tryd.prog.toTables.types.size := fun e => by
      have e2 : u < Tryd.prog.types.size := e
      omega
    unfold Tables.info? at h
    rw [if_neg hn] at h
    have h : (if u < Tryd.prog.toTables.types.size then Tryd.prog.toTables.types[u]? else (Made.decode (u - Tryd.prog.toTables.types.size)).bind (Made.reckon (Made.infoAt Tryd.prog.toTables 99))) = some i := h
    rw [if_neg hn] at h
    obtain ⟨d, _, hd⟩ := Option.bind_eq_some_iff.1 h
    exact ⟨d, hd⟩
theorem star_inj (s : String) (h : "*" ++ s = "*errors.errorString") : s = "errors.errorString" := by
  have h1 := congrArg String.toList h
  rw [String.toList_append] at h1
  have h2 : s.toList = "errors.errorString".toList := by
    have : ("*errors.errorString" : String).toList = "*".toList ++ "errors.errorString".toList := by decide
    rw [this] at h1
    exact List.append_cancel_left h1
  exact String.toList_inj.1 h2
theorem no_star (s : String) (h : "*" ++ s = "errors.errorString") : False := by
  have h1 := congrArg String.toList h
  rw [String.toList_append] at h1
  have h2 := congrArg List.head? h1
  have h3 : ("*".toList ++ s.toList).head? = "*".toList.head? := by simp
  rw [h3] at h2
  exact absurd h2 (by decide)
theorem elem_eof (e : Nat) (hn : Tryd.prog.typeName? 2 e = some "errors.errorString") : e = 147 := by
  cases hi : Tryd.prog.info? e with
  | none => simp only [Program.typeName?, hi] at hn; cases hn
  | some i =>
    rcases info_cases e i hi with hu | ⟨d, hd⟩
    · have := List.all_eq_true.1 names_few2 e (List.mem_range.2 hu)
      simpa [hn] using this
    · simp only [Program.typeName?, hi] at hn
      rcases reckoned hd with ⟨e2, ie, h1, _, _⟩ | h1
      · rw [h1] at hn
        obtain ⟨s, _, hs⟩ := Option.map_eq_some_iff.1 hn
        exact (no_star s hs).elim
      · cases hd2 : i.desc <;> rw [hd2] at h1 hn <;> first | (cases h1; done) | (cases hn; done)
theorem name_eof (u : Nat) (hn : Tryd.prog.typeName? 3 u = some "*errors.errorString") : u = 145 := by
  cases hi : Tryd.prog.info? u with
  | none => simp only [Program.typeName?, hi] at hn; cases hn
  | some i =>
    rcases info_cases u i hi with hu | ⟨d, hd⟩
    · have := List.all_eq_true.1 names_few u (List.mem_range.2 hu)
      simpa [hn] using this
    · rcases reckoned hd with ⟨e2, ie, h1, h2, h3⟩ | h1
      · unfold Program.typeName? at hn
        rw [hi] at hn
        simp only [h1] at hn
        obtain ⟨s, hs1, hs⟩ := Option.map_eq_some_iff.1 hn
        have hs := star_inj s hs
        subst hs
        have he := elem_eof e2 hs1
        subst he
        have h4 : Made.infoAt Tryd.prog.toTables 99 147 = Tryd.prog.info? 147 := by kernel_rfl
        rw [h4] at h2
        have h5 := named_147
        rw [h2] at h5
        simp only [Option.map_some] at h5
        cases hd3 : ie.desc <;> rw [hd3] at h5 <;> first | exact absurd hd3 (h3 _ _) | (cases h5; done)
      · simp only [Program.typeName?, hi] at hn
        cases hd2 : i.desc <;> rw [hd2] at h1 hn <;> first | (cases h1; done) | (cases hn; done)

set_option maxRecDepth 100000 in
/-- WHAT THE ROW's LIST GIVES: the variable holds an errors.errorString's pointer. -/
theorem laid_eof {W : World} (h : laidMetH Tryd.prog [("io.ErrUnexpectedEOF", Rows.laid_io_ErrUnexpectedEOF)] W) : (∃ a, W.cell? ⟨0, 0, none⟩ = some (.iface 145 (.pointer (some a)))) ∧ 0 < W.heap.size := by
  have h : laidMet Tryd.prog [("io.ErrUnexpectedEOF", Rows.laid_io_ErrUnexpectedEOF)] W := h
  obtain ⟨ps, ⟨g, t, cs, fuel, p, q, hg, ht, hvar, hd, hrest, hps⟩, hnd, hok⟩ := h
  obtain rfl := Option.some.inj (g_eof.symm.trans hg)
  obtain rfl := Option.some.inj (gt_eof.symm.trans ht)
  have hcell := World.var?_cell g_eof hvar 0
  obtain ⟨l, hl⟩ : ∃ l, l = cs.toList := ⟨_, rfl⟩
  rw [← hl] at hd
  have hc0 : cs[0]? = l[0]? := by rw [hl, Array.getElem?_toList]
  have hin : 0 < l.length → MemPlace.cell 0 0 ∈ ps := fun h0 => by
    have hs : 0 < cs.size := by rw [hl, Array.length_toList] at h0; exact h0
    rw [hps, List.append_assoc]
    refine List.mem_append_left _ ?_
    unfold MemPlace.row
    exact List.mem_map.2 ⟨0, List.mem_range.2 hs, rfl⟩
  cases fuel with
  | zero => simp [DataW.trod] at hd
  | succ fuel =>
    match l, hd, hc0, hin with
    | [], hd, _, _ => simp [DataW.trod, Tryd.underlying64] at hd
    | _ :: _ :: _, hd, _, _ => simp [DataW.trod, Tryd.underlying64] at hd
    | [v], hd, hc0, hin =>
      cases v with
      | iface u x =>
        rw [hc0] at hcell
        have hok1 := (hok 0 0 (hin (by simp))).1
        have hok2 := (hok 0 0 (hin (by simp))).2 u x hcell
        simp only [DataW.trod, Tryd.underlying64] at hd
        cases hu : Tryd.prog.typeName? 3 u with
        | none => rw [hu] at hd; cases hd
        | some name =>
          rw [hu] at hd
          obtain ⟨y, hy, hy2⟩ := Option.map_eq_some_iff.1 hd
          have hy3 := congrArg Prod.fst hy2
          unfold Rows.laid_io_ErrUnexpectedEOF at hy3
          injection hy3 with hn hy4
          subst hn
          have hu2 := name_eof u hu
          subst hu2
          obtain ⟨a, rfl⟩ := okWide_pointer Tryd.underlying145 hok2
          cases a with
          | none =>
            cases fuel with
            | zero => simp [DataW.trod] at hy
            | succ fuel =>
              simp only [DataW.trod, Tryd.underlying145, Value.cells] at hy
              injection hy with hy
              rw [← hy] at hy4
              cases hy4
          | some a =>
            refine ⟨⟨a, hcell⟩, ?_⟩
            obtain ⟨c, t, hb⟩ := hok1
            exact Nat.lt_of_le_of_lt (Nat.le_refl 0) (Array.getElem?_eq_some_iff.1 hb).1
      | _ => simp [DataW.trod, Tryd.underlying64, Rows.laid_io_ErrUnexpectedEOF] at hd
end Go.Proofs.YtdhhccpeikhilaaDoor
