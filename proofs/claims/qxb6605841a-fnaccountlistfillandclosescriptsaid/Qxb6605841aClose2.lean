import Derived.Test.Qxb6605841aClose1
namespace Go.Proofs.Qxb6605841a
open Go.RowKit

theorem Try.infoB9 : (Try.prog.info? 9).map (fun i => (i.zero, i.size, i.bytes)) = some (some (.string ByteArray.empty), 1, 16) := by kernel_rfl

theorem ownsRow_kept {X : Nat → Prop} {w w' : World} {B n : Nat} {e : TypeId} {v : Value} {xs : List Value} (h : w.ownsRow B e 1 v n xs) (k : Kept X w w') (hx : ∀ g, v.ownBlock = some g → ¬ X g) : w'.ownsRow B e 1 v n xs := by
  refine ⟨h.1, ?_⟩
  rcases h.2 with hn | ⟨g, cap, cur, rfl, hb, hgg, rest⟩
  · exact .inl hn
  · refine .inr ⟨g, cap, cur, rfl, hb, ?_, rest⟩
    rw [k.block g (Array.getElem?_eq_some_iff.1 hgg).1 (hx g rfl)]
    exact hgg
theorem ownRow_type {w : World} {B n : Nat} {e : TypeId} {v : Value} {xs : List Value} {c : Array Value} {t : TypeId} {fz : Nat × Nat} {k : Nat} (h : w.ownsRow B e 1 v n xs) (hk : w.heap[k]? = some (.cells c t fz)) (ht : t ≠ e) : v.ownBlock ≠ some k := by
  rcases h.2 with ⟨rfl, _⟩ | ⟨g, cap, cur, rfl, _, hgg, _⟩
  · simp [Value.ownBlock]
  · intro e'
    simp only [Value.ownBlock, Option.some.injEq] at e'
    subst e'
    rw [hgg] at hk
    simp only [Option.some.injEq, Obj.cells.injEq] at hk
    exact ht hk.2.1.symm
/-- A row of bytes and a row of another type lie in two blocks. -/
theorem rows_apart {w : World} {B C n m : Nat} {e : TypeId} {v u : Value} {xs ys : List Value} (h : w.ownsRow B e 1 v n xs) (h2 : w.ownsRowF C 5 1 u m ys) (he : e ≠ 5) : ∀ g, v.ownBlock = some g → ¬ u.ownBlock = some g := by
  intro g hg
  rcases h.2 with ⟨rfl, _⟩ | ⟨g', cap, cur, rfl, _, hgg, _⟩
  · simp [Value.ownBlock] at hg
  · simp only [Value.ownBlock, Option.some.injEq] at hg
    subst hg
    exact ownBlock_type h2 hgg he

set_option maxHeartbeats 2000000 in
set_option maxRecDepth 1000000 in
/-- (*accountList).closeBlock. -/
theorem close29_any (b : Nat) (full p buf ends : Value) (nn : Int) (l : List UInt8) (m : Nat) (xs : List Value) (w : World) (h : ListAt w b full p buf ends nn) (hown : w.ownsRowF b 5 1 buf (Lib.byteCells l).length (Lib.byteCells l))
    (hfull : w.ownsRow b 9 1 full m xs) (hl : l.length ≤ 1073741824) (hm : m ≤ 1073741824) :
    Calls Try.prog 29 #[.pointer (some ⟨b, 0, none⟩)] w fun e w' => e = .returned (.tuple #[]) ∧
      ∃ full' a cap, l.length ≤ cap ∧ ListAt w' b full' (.pointer (some ⟨b, 1, none⟩)) (.slice a 0 cap) ends nn ∧ w'.ownsRowF b 5 1 (.slice a 0 cap) 0 [] ∧ w'.ownsRow b 9 1 full' (m + 1) (xs ++ [.string ⟨l.toArray⟩]) ∧
        Kept (fun k => k = b ∨ full.ownBlock = some k ∨ buf.ownBlock = some k) w w' := by
  obtain ⟨i0, hi, hz0, hz1, hz2⟩ := info_parts Try.infoB9
  have hne : ¬ buf.ownBlock = some b := ownBlock_type hown h (by decide)
  obtain ⟨ab, cb, rfl, hcb⟩ : ∃ ab cb, buf = .slice ab l.length cb ∧ l.length ≤ cb := by
    rcases hown.2 with ⟨hv, h0⟩ | ⟨g, cap, cur, fz, hv, _, _, _, hnc, _⟩
    · rw [Lib.byteCells_length] at h0; exact ⟨none, 0, by rw [hv, h0], by omega⟩
    · rw [Lib.byteCells_length] at hv hnc; exact ⟨_, _, hv, hnc⟩
  generalize hbuf : Value.slice ab l.length cb = buf at *
  go_enter Try.func29, Try.ntmps29
  go_wp2_with fail
  refine (string_any b b full p buf ends nn l _ h hown).mono ?_
  rintro e w1 ⟨rfl, hk1, hown1⟩
  have h1 := h.kept hk1 hne
  have hfull1 := ownsRow_kept hfull hk1 (fun g hg => rows_apart hfull hown (by decide) g hg)
  have c2 : w1.cell? ⟨b, 2, none⟩ = some (.slice ab l.length cb) := by rw [hbuf]; exact h1.cell 2
  have HK := hid hk1
  have hnel : (⟨l.toArray⟩ : ByteArray).size = l.length := by show l.toArray.size = _; simp
  have H1 := hid h1
  have H2 := hid hown1
  have H3 := hid hfull1
  have HB : Hid (Value.slice ab l.length cb = buf) := hbuf
  clear h hown hfull h1 hown1 hfull1 hk1 hbuf
  go_wp2_with fail
  refine (cap31_any b l.length cb ab _ c2).mono ?_
  rintro e w2 ⟨rfl, rfl⟩
  by_cases hgt : l.length < cb
  · go_wp2_with fail
    refine (clone37_any _ _ (by rw [hnel]; omega)).mono ?_
    rintro e w3 ⟨rfl, hb3⟩
    have G1 : Hid (ListAt w3 b full p buf ends nn) := (hb3.block b H1.out.lt).trans H1.out
    have G3 : Hid (w3.ownsRow b 9 1 full m xs) := ownsRow_kept H3.out (Kept.of_below hb3) (fun g hg => by have := (H3.out.lt g hg).2; omega)
    have GK : Hid (Kept (fun k => buf.ownBlock = some k) w w3) := HK.out.trans ((Kept.of_below hb3).mono (fun k hk e => by omega))
    clear hb3 H1 H2 H3 HK c2
    all_goals
      have h63 : m + 1 ≤ maxLen := by unfold maxLen; omega
      have hby : (m + 1) * 16 ≤ 140737488355328 := by omega
      have hbs : b ≤ w3.heap.size := Nat.le_of_lt (Hid.out G1).lt
      have c0 : w3.cell? ⟨b, 0, none⟩ = some full := (Hid.out G1).cell 0
      have hfull3 := Hid.out G3
      have hne3 : full.ownBlock ≠ some b := ownRow_type hfull3 (Hid.out G1) (by decide)
      go_wp2_with (at_builtin; refine wpList_append_own _ rfl _ _ 28 rfl b 9 i0 (.string ByteArray.empty) 1 16 Try.underlying28 hi hz0 hz1 hz2 rfl (by decide) _ _ _ rfl (hfull3.alloc _) ⟨w3.heap.size, 0, none⟩ 1 1 [.string ⟨l.toArray⟩] rfl rfl (cell_one_new _ _ _) (by intro u hu; simp at hu; subst hu; rfl) h63 hby (by simp; omega) ?_)
      intro v' w4 hown4 hgrow4 _
      obtain ⟨av, nv, cv, rfl⟩ : ∃ av nv cv, v' = .slice av nv cv := by
        rcases hown4.2 with ⟨hv, _⟩ | ⟨g, cap, cur, hv, _⟩
        · exact ⟨_, _, _, hv⟩
        · exact ⟨_, _, _, hv⟩
      have hk4 : Kept (fun k => full.ownBlock = some k) w3 w4 := ((Kept.refl (fun k => full.ownBlock = some k) w3).alloc _).trans (Kept.of_grown hgrow4)
      have h4 : ListAt w4 b full p buf ends nn := (Hid.out G1).kept hk4 hne3
      have hne4 : (Value.slice av nv cv).ownBlock ≠ some b := ownRow_type hown4 h4 (by decide)
      have d0 : w4.cell? ⟨b, 0, none⟩ = some full := h4.cell 0
      have d1 : w4.cell? ⟨b, 1, none⟩ = some p := h4.cell 1
      have d2 : w4.cell? ⟨b, 2, none⟩ = some buf := h4.cell 2
      have f0 : w4.frozen? ⟨b, 0, none⟩ = false := h4.frozen 0
      have f1 : w4.frozen? ⟨b, 1, none⟩ = false := h4.frozen 1
      have f2 : w4.frozen? ⟨b, 2, none⟩ = false := h4.frozen 2
      have F1 := hid h4
      have F2 := hid hown4
      have F3 := hid hk4
      clear hown4 hgrow4 hk4 h4 hfull3 G1 G3 c0 h63 hby hne3
      go_wp2_with fail
      have h5 : ListAt (((w4.setCell ⟨b, 0, none⟩ (.slice av nv cv)).setCell ⟨b, 1, none⟩ (.pointer none)).setCell ⟨b, 2, none⟩ (.slice none 0 0)) b (.slice av nv cv) (.pointer none) (.slice none 0 0) ends nn :=
        ListAt.set (ListAt.set (ListAt.set (Hid.out F1) 0 _) 1 _) 2 _
      have hk5 : Kept (fun k => k = b) w4 (((w4.setCell ⟨b, 0, none⟩ (.slice av nv cv)).setCell ⟨b, 1, none⟩ (.pointer none)).setCell ⟨b, 2, none⟩ (.slice none 0 0)) :=
        (((Kept.refl (fun k => k = b) w4).setCell (p := ⟨b, 0, none⟩) rfl _).setCell (p := ⟨b, 1, none⟩) rfl _).setCell (p := ⟨b, 2, none⟩) rfl _
      refine (grow38_any b _ ends nn l.length _ h5 (by omega)).mono ?_
      rintro e w6 ⟨rfl, a6, cap6, hc6, h6, hown6, hk6⟩
      have hf6 := ownsRow_kept (Hid.out F2) (hk5.trans hk6) (fun g hg e => hne4 (by rw [hg, e]))
      have hkall : Kept (fun k => k = b ∨ full.ownBlock = some k ∨ buf.ownBlock = some k) w w6 :=
        ((GK.out.mono (Y := fun k => k = b ∨ full.ownBlock = some k ∨ buf.ownBlock = some k) (fun _ _ e => .inr (.inr e))).trans ((Hid.out F3).mono (fun _ _ e => .inr (.inl e)))).trans ((hk5.trans hk6).mono (fun _ _ e => .inl e))
      have J1 := hid h6
      have J2 := hid hown6
      have J3 := hid hf6
      have J4 := hid hkall
      clear h5 hk5 h6 hown6 hk6 hf6 hkall F1 F2 F3 GK hne4 d0 d1 d2 f0 f1 f2
      go_wp2_with fail
      go_end0
      exact ⟨rfl, _, a6, cap6, hc6, J1.out, J2.out, J3.out, J4.out⟩
  · obtain ⟨w3, hw3⟩ : ∃ w3, w3 = w2 := ⟨_, rfl⟩
    subst hw3
    have G1 : Hid (ListAt w3 b full p buf ends nn) := H1.out
    have G3 : Hid (w3.ownsRow b 9 1 full m xs) := H3.out
    have GK : Hid (Kept (fun k => buf.ownBlock = some k) w w3) := HK.out
    clear H1 H2 H3 HK c2
    all_goals
      have h63 : m + 1 ≤ maxLen := by unfold maxLen; omega
      have hby : (m + 1) * 16 ≤ 140737488355328 := by omega
      have hbs : b ≤ w3.heap.size := Nat.le_of_lt (Hid.out G1).lt
      have c0 : w3.cell? ⟨b, 0, none⟩ = some full := (Hid.out G1).cell 0
      have hfull3 := Hid.out G3
      have hne3 : full.ownBlock ≠ some b := ownRow_type hfull3 (Hid.out G1) (by decide)
      go_wp2_with (at_builtin; refine wpList_append_own _ rfl _ _ 28 rfl b 9 i0 (.string ByteArray.empty) 1 16 Try.underlying28 hi hz0 hz1 hz2 rfl (by decide) _ _ _ rfl (hfull3.alloc _) ⟨w3.heap.size, 0, none⟩ 1 1 [.string ⟨l.toArray⟩] rfl rfl (cell_one_new _ _ _) (by intro u hu; simp at hu; subst hu; rfl) h63 hby (by simp; omega) ?_)
      intro v' w4 hown4 hgrow4 _
      obtain ⟨av, nv, cv, rfl⟩ : ∃ av nv cv, v' = .slice av nv cv := by
        rcases hown4.2 with ⟨hv, _⟩ | ⟨g, cap, cur, hv, _⟩
        · exact ⟨_, _, _, hv⟩
        · exact ⟨_, _, _, hv⟩
      have hk4 : Kept (fun k => full.ownBlock = some k) w3 w4 := ((Kept.refl (fun k => full.ownBlock = some k) w3).alloc _).trans (Kept.of_grown hgrow4)
      have h4 : ListAt w4 b full p buf ends nn := (Hid.out G1).kept hk4 hne3
      have hne4 : (Value.slice av nv cv).ownBlock ≠ some b := ownRow_type hown4 h4 (by decide)
      have d0 : w4.cell? ⟨b, 0, none⟩ = some full := h4.cell 0
      have d1 : w4.cell? ⟨b, 1, none⟩ = some p := h4.cell 1
      have d2 : w4.cell? ⟨b, 2, none⟩ = some buf := h4.cell 2
      have f0 : w4.frozen? ⟨b, 0, none⟩ = false := h4.frozen 0
      have f1 : w4.frozen? ⟨b, 1, none⟩ = false := h4.frozen 1
      have f2 : w4.frozen? ⟨b, 2, none⟩ = false := h4.frozen 2
      have F1 := hid h4
      have F2 := hid hown4
      have F3 := hid hk4
      clear hown4 hgrow4 hk4 h4 hfull3 G1 G3 c0 h63 hby hne3
      go_wp2_with fail
      have h5 : ListAt (((w4.setCell ⟨b, 0, none⟩ (.slice av nv cv)).setCell ⟨b, 1, none⟩ (.pointer none)).setCell ⟨b, 2, none⟩ (.slice none 0 0)) b (.slice av nv cv) (.pointer none) (.slice none 0 0) ends nn :=
        ListAt.set (ListAt.set (ListAt.set (Hid.out F1) 0 _) 1 _) 2 _
      have hk5 : Kept (fun k => k = b) w4 (((w4.setCell ⟨b, 0, none⟩ (.slice av nv cv)).setCell ⟨b, 1, none⟩ (.pointer none)).setCell ⟨b, 2, none⟩ (.slice none 0 0)) :=
        (((Kept.refl (fun k => k = b) w4).setCell (p := ⟨b, 0, none⟩) rfl _).setCell (p := ⟨b, 1, none⟩) rfl _).setCell (p := ⟨b, 2, none⟩) rfl _
      refine (grow38_any b _ ends nn l.length _ h5 (by omega)).mono ?_
      rintro e w6 ⟨rfl, a6, cap6, hc6, h6, hown6, hk6⟩
      have hf6 := ownsRow_kept (Hid.out F2) (hk5.trans hk6) (fun g hg e => hne4 (by rw [hg, e]))
      have hkall : Kept (fun k => k = b ∨ full.ownBlock = some k ∨ buf.ownBlock = some k) w w6 :=
        ((GK.out.mono (Y := fun k => k = b ∨ full.ownBlock = some k ∨ buf.ownBlock = some k) (fun _ _ e => .inr (.inr e))).trans ((Hid.out F3).mono (fun _ _ e => .inr (.inl e)))).trans ((hk5.trans hk6).mono (fun _ _ e => .inl e))
      have J1 := hid h6
      have J2 := hid hown6
      have J3 := hid hf6
      have J4 := hid hkall
      clear h5 hk5 h6 hown6 hk6 hf6 hkall F1 F2 F3 GK hne4 d0 d1 d2 f0 f1 f2
      go_wp2_with fail
      go_end0
      exact ⟨rfl, _, a6, cap6, hc6, J1.out, J2.out, J3.out, J4.out⟩

/-- ZZcloseBlock. -/
theorem close19_any (b : Nat) (full p buf ends : Value) (nn : Int) (l : List UInt8) (m : Nat) (xs : List Value) (w : World) (h : ListAt w b full p buf ends nn) (hown : w.ownsRowF b 5 1 buf (Lib.byteCells l).length (Lib.byteCells l))
    (hfull : w.ownsRow b 9 1 full m xs) (hl : l.length ≤ 1073741824) (hm : m ≤ 1073741824) :
    Calls Try.prog 19 #[.pointer (some ⟨b, 0, none⟩)] w fun e w' => e = .returned (.tuple #[]) ∧
      ∃ full' a cap, l.length ≤ cap ∧ ListAt w' b full' (.pointer (some ⟨b, 1, none⟩)) (.slice a 0 cap) ends nn ∧ w'.ownsRowF b 5 1 (.slice a 0 cap) 0 [] ∧ w'.ownsRow b 9 1 full' (m + 1) (xs ++ [.string ⟨l.toArray⟩]) ∧
        Kept (fun k => k = b ∨ full.ownBlock = some k ∨ buf.ownBlock = some k) w w' := by
  have H1 := hid h
  have H2 := hid hown
  have H3 := hid hfull
  clear h hown hfull
  go_enter Try.func19, Try.ntmps19
  go_wp2_with fail
  refine (close29_any b full p buf ends nn l m xs _ H1.out H2.out H3.out hl hm).mono ?_
  rintro e w' ⟨rfl, full', a, cap, h1, h2, h3, h4, h5⟩
  have J1 := hid h2
  have J2 := hid h3
  have J3 := hid h4
  have J4 := hid h5
  clear h2 h3 h4 h5
  go_wp2_with fail
  go_end0
  exact ⟨rfl, full', a, cap, h1, J1.out, J2.out, J3.out, J4.out⟩

/-- ZZfull. -/
theorem full20_any (b : Nat) (v : Value) (w : World) (h : w.cell? ⟨b, 0, none⟩ = some v) : Calls Try.prog 20 #[.pointer (some ⟨b, 0, none⟩)] w fun e w' => e = .returned v ∧ w' = w := by
  go_enter Try.func20, Try.ntmps20
  go_wp2
  go_ret
  exact ⟨rfl, rfl⟩
/-- ZZopenLen. -/
theorem openLen_any (b n c : Nat) (a : Option Addr) (w : World) (h2 : w.cell? ⟨b, 2, none⟩ = some (.slice a n c)) :
    Calls Try.prog 21 #[.pointer (some ⟨b, 0, none⟩)] w fun e w' => e = .returned (.int .i64 n) ∧ w' = w := by
  go_enter Try.func21, Try.ntmps21
  go_wp2_with fail
  refine (len30_any b n c a _ h2).mono ?_
  rintro e w' ⟨rfl, rfl⟩
  go_wp2_with fail
  go_ret
  exact ⟨rfl, rfl⟩
/-- ZZopenCap. -/
theorem openCap_any (b n c : Nat) (a : Option Addr) (w : World) (h2 : w.cell? ⟨b, 2, none⟩ = some (.slice a n c)) :
    Calls Try.prog 22 #[.pointer (some ⟨b, 0, none⟩)] w fun e w' => e = .returned (.int .i64 c) ∧ w' = w := by
  go_enter Try.func22, Try.ntmps22
  go_wp2_with fail
  refine (cap31_any b n c a _ h2).mono ?_
  rintro e w' ⟨rfl, rfl⟩
  go_wp2_with fail
  go_ret
  exact ⟨rfl, rfl⟩
/-- ZZwriteOpen. -/
theorem writeOpen_any (B b : Nat) (full p buf ends : Value) (n : Int) (bs : List Value) (s : ByteArray) (w : World) (h : ListAt w b full p buf ends n) (hp : AddrOk b p) (hown : w.ownsRowF B 5 1 buf bs.length bs)
    (hlen : bs.length + s.size ≤ 1073741824) (hBw : B ≤ w.heap.size) :
    Calls Try.prog 24 #[.pointer (some ⟨b, 0, none⟩), .string s] w fun e w' => e = .returned (.tuple #[]) ∧
      ∃ buf', ListAt w' b full (.pointer (some ⟨b, 1, none⟩)) buf' ends n ∧ w'.ownsRowF B 5 1 buf' (bs ++ Lib.strCells s).length (bs ++ Lib.strCells s) ∧ Kept (fun k => k = b ∨ buf.ownBlock = some k) w w' := by
  have H1 := hid h
  have H2 := hid hown
  have H3 := hid hp
  clear h hown hp
  go_enter Try.func24, Try.ntmps24
  go_wp2_with fail
  refine (write_any B b full p buf ends n bs s _ H1.out H3.out H2.out hlen hBw).mono ?_
  rintro e w' ⟨rfl, buf', h1, h2, h3⟩
  have J1 := hid h1
  have J2 := hid h2
  have J3 := hid h3
  clear h1 h2 h3
  go_wp2_with fail
  go_end0
  exact ⟨rfl, buf', J1.out, J2.out, J3.out⟩
/-- ZZsetEnds. -/
theorem setEnds_any (b : Nat) (full p buf ends : Value) (ea : Option Addr) (en ec : Nat) (n n2 : Int) (w : World) (h : ListAt w b full p buf ends n) :
    Calls Try.prog 25 #[.pointer (some ⟨b, 0, none⟩), .slice ea en ec, .int .i64 n2] w fun e w' => e = .returned (.tuple #[]) ∧ ListAt w' b full p buf (.slice ea en ec) n2 ∧ Kept (fun k => k = b) w w' := by
  have c3 : w.cell? ⟨b, 3, none⟩ = some ends := h.cell 3
  have c4 : w.cell? ⟨b, 4, none⟩ = some (.int .i64 n) := h.cell 4
  have f3 : w.frozen? ⟨b, 3, none⟩ = false := h.frozen 3
  have f4 : w.frozen? ⟨b, 4, none⟩ = false := h.frozen 4
  have J1 : Hid (ListAt ((w.setCell ⟨b, 3, none⟩ (.slice ea en ec)).setCell ⟨b, 4, none⟩ (.int .i64 n2)) b full p buf (.slice ea en ec) n2) := ListAt.set (ListAt.set h 3 _) 4 _
  have J2 : Hid (Kept (fun k => k = b) w ((w.setCell ⟨b, 3, none⟩ (.slice ea en ec)).setCell ⟨b, 4, none⟩ (.int .i64 n2))) := ((Kept.refl (fun k => k = b) w).setCell (p := ⟨b, 3, none⟩) rfl _).setCell (p := ⟨b, 4, none⟩) rfl _
  clear h
  go_enter Try.func25, Try.ntmps25
  go_wp2
  go_end0
  exact ⟨rfl, J1.out, J2.out⟩
end Go.Proofs.Qxb6605841a
