/-
  The walks of this seat, II: ParsePosition (5) and LawS194073BWhole (3).
-/
import Derived.Test.YbulkexofwFmtWalks
import Derived.Test.YbulkexofwFmtShelf
import Derived.Lib.AtoiErrMem
import Derived.BigCall
namespace Go.Proofs.YbulkexofwFmt
open Go.RowKit Go.Extern.Stop Go.Stop Go.Extern Go.Shelf

theorem bcell {W w1 : World} (hb : Below W.heap.size W w1) : (∀ b o, b < W.heap.size → w1.cell? ⟨b, o, none⟩ = W.cell? ⟨b, o, none⟩) ∧ (∀ b o, b < W.heap.size → w1.frozen? ⟨b, o, none⟩ = W.frozen? ⟨b, o, none⟩) :=
  ⟨fun b o h => hb.cell (p := ⟨b, o, none⟩) h, fun b o h => hb.frozen (p := ⟨b, o, none⟩) h⟩

/-- How ParsePosition ends. -/
def Parsed (s : ByteArray) (w : World) (e : Ending) (w' : World) : Prop :=
  Below w.heap.size w w' ∧ match posOf s with
    | some (i, u) => e = .returned (.tuple #[.agg #[.string (s.extract 0 i), .int .u32 u], .nilIface])
    | none => ∃ p, e = .returned (.tuple #[.agg #[.string ⟨#[]⟩, .int .u32 0], .iface 44 p])
theorem parsed_none {s : ByteArray} {w : World} {e : Ending} {w' : World} (p : Value) (h : posOf s = none) (hb : Below w.heap.size w w') (he : e = .returned (.tuple #[.agg #[.string ⟨#[]⟩, .int .u32 0], .iface 44 p])) : Parsed s w e w' := by
  refine ⟨hb, ?_⟩
  rw [h]
  exact ⟨p, he⟩
theorem parsed_some {s : ByteArray} {w : World} {e : Ending} {w' : World} {i u : Nat} (h : posOf s = some (i, u)) (hb : Below w.heap.size w w') (he : e = .returned (.tuple #[.agg #[.string (s.extract 0 i), .int .u32 u], .nilIface])) : Parsed s w e w' := by
  refine ⟨hb, ?_⟩
  rw [h]
  exact he

set_option maxHeartbeats 1000000 in
theorem parse_no (F : Interp) (s : ByteArray) (w : World) (hF : F.answers w.tape) (hs : s.size ≤ 1048576 + 20) (hi : Lib.lastIndexByte s 58 ≤ 0) :
    Calls Ybaf.prog 5 #[.string s] w (Parsed s w) := by
  have HP : Hid (_ = _) := posOf_no s _ rfl hi
  generalize hx : Lib.lastIndexByte s 58 = i at *
  have cL : Calls Ybaf.prog 8 #[.string s, .int .u8 58] (w.alloc (.cells #[.string ⟨#[]⟩, .int .u32 0] 24)) fun e w' => e = .returned (.int .i64 i) ∧ w' = (w.alloc (.cells #[.string ⟨#[]⟩, .int .u32 0] 24)) := by
    rw [← hx]; exact last_any s 58 _ (by omega)
  clear hx
  go_enter Ybaf.func5, Ybaf.ntmps5
  go_wp2_with (go_at_call 8; refine cL.mono ?_; rintro e w' ⟨rfl, rfl⟩)
  refine (errorfA F s _ _ (by exact hF) (by go_simp)).mono ?_
  rintro e w' ⟨t, rfl, rfl⟩
  go_wp2
  exact bodyPost_ret (v := .tuple #[.agg #[.string ⟨#[]⟩, .int .u32 0], .iface 44 (.pointer (some ⟨w.heap.size + 2, 0, none⟩))]) (by simp [results, Ybaf.results5, go_sem]) rfl
    (parsed_none _ HP.out ((((Below.refl _ w).alloc (Nat.le_refl _) _).alloc (by simp) _).alloc (by simp; omega) _).drew rfl)

set_option maxHeartbeats 1000000 in
theorem parse_ok (s : ByteArray) (i u : Nat) (w : World) (hs : s.size ≤ 1048576 + 20) (hi : Lib.lastIndexByte s 58 = i) (h0 : 0 < i) (hlt : i < s.size) (hu : Lib.parseUintB 32 (s.extract (i + 1) s.size).data.toList = .ok u) :
    Calls Ybaf.prog 5 #[.string s] w (Parsed s w) := by
  have HP : Hid (posOf s = some (i, u)) := by
    show posOf s = some (i, u)
    rw [posOf_at s i hi h0, numAt, hu]; rfl
  have cL : ∀ w, Calls Ybaf.prog 8 #[.string s, .int .u8 58] w fun e w' => e = .returned (.int .i64 i) ∧ w' = w := fun w => by
    rw [← hi]; exact last_any s 58 _ (by omega)
  have hle : u ≤ 4294967295 := Lib.parseUintB_le hu
  have cU : ∀ w, Calls Ybaf.prog 10 #[.string (s.extract (i + 1) s.size), .int .i64 10, .int .i64 32] w fun e w' => e = .returned (.tuple #[.int .u64 u, .nilIface]) ∧ Below w.heap.size w w' := fun w =>
    (Any.strconv_ParseUint_10_at32_ok Ybaf.laysPu14 _ (by rw [ByteArray.size_extract]; omega) u hu w).mono fun _ _ h => ⟨h.1, by
      rcases h.2 with rfl | rfl
      · exact Below.refl _ _
      · exact Lib.bytesWorld_below _ _ _⟩
  clear hi hu
  go_enter Ybaf.func5, Ybaf.ntmps5
  go_wp2_with (go_at_call 8; refine (cL _).mono ?_; rintro e w' ⟨rfl, rfl⟩)
  refine (cU _).mono ?_
  rintro e w1 ⟨rfl, hb⟩
  obtain ⟨hc, hf⟩ := bcell hb
  have hz : w.heap.size + 1 ≤ w1.heap.size := by have := hb.size; simpa using this
  go_wp2
  exact bodyPost_ret (v := .tuple #[.agg #[.string (s.extract 0 i), .int .u32 u], .nilIface]) (by simp [results, Ybaf.results5, go_sem, hc]) rfl
    (parsed_some HP.out ((((Below.refl _ w).alloc (Nat.le_refl _) _).trans (hb.mono (by simp))).setCell (by simp) _ |>.setCell (by simp) _) rfl)

/-- The two failing ways of ParseUint, behind which fmt is asked. -/
theorem parse_bad (F : Interp) (s : ByteArray) (i : Nat) (v : Int) (tp : TypeId) (w : World) (hF : F.answers w.tape) (hs : s.size ≤ 1048576 + 20) (hi : Lib.lastIndexByte s 58 = i) (h0 : 0 < i) (hlt : i < s.size) (hn : numAt s i = none)
    (cU : Calls Ybaf.prog 10 #[.string (s.extract (i + 1) s.size), .int .i64 10, .int .i64 32] (w.alloc (.cells #[.string ⟨#[]⟩, .int .u32 0] 24)) fun e w' => (∃ p, e = .returned (.tuple #[.int .u64 v, .iface tp p])) ∧ Below (w.heap.size + 1) (w.alloc (.cells #[.string ⟨#[]⟩, .int .u32 0] 24)) w') :
    Calls Ybaf.prog 5 #[.string s] w (Parsed s w) := by
  have HP : Hid (posOf s = none) := by
    show posOf s = none
    rw [posOf_at s i hi h0, hn]; rfl
  have cL : ∀ w, Calls Ybaf.prog 8 #[.string s, .int .u8 58] w fun e w' => e = .returned (.int .i64 i) ∧ w' = w := fun w => by
    rw [← hi]; exact last_any s 58 _ (by omega)
  clear hi hn
  go_enter Ybaf.func5, Ybaf.ntmps5
  go_wp2_with (go_at_call 8; refine (cL _).mono ?_; rintro e w' ⟨rfl, rfl⟩)
  refine cU.mono ?_
  rintro e w1 ⟨⟨p, rfl⟩, hb⟩
  have hb' : Below (w.alloc (.cells #[.string ⟨#[]⟩, .int .u32 0] 24)).heap.size (w.alloc (.cells #[.string ⟨#[]⟩, .int .u32 0] 24)) w1 := hb.mono (by simp)
  obtain ⟨hc, hf⟩ := bcell hb'
  have hz : w.heap.size < w1.heap.size := by have := hb'.size; simp at this; omega
  have htape : w1.tape = w.tape := hb.tape
  have HT : Hid (w1.tape = w.tape) := htape
  clear htape
  go_wp2_with fail
  refine (errorfB F s _ _ (by show F.answers w1.tape; rw [HT.out]; exact hF) (by go_simp)).mono ?_
  rintro e w' ⟨t, rfl, rfl⟩
  go_wp2
  exact bodyPost_ret (v := .tuple #[.agg #[.string ⟨#[]⟩, .int .u32 0], .iface 44 (.pointer (some ⟨w1.heap.size + 1, 0, none⟩))]) (by simp [results, Ybaf.results5, go_sem, hc, hz, Nat.lt_succ_of_lt hz]) rfl
    (parsed_none _ HP.out (((((((Below.refl _ w).alloc (Nat.le_refl _) _).trans (hb.mono (by omega))).setCell (by simp) _).setCell (by simp) _).alloc (by simp; omega) _).alloc (by simp; omega) _).drew rfl)

theorem var_stays {W W' : World} {n : String} {g : Nat} {x : Value} (h : Below W.heap.size W W') (hg : Ybaf.prog.globalNamed n = some g) (hv : W.var? Ybaf.prog n = some #[x]) : W'.var? Ybaf.prog n = some #[x] := by
  have hc : W.cell? ⟨g, 0, none⟩ = some x := by simpa using World.var?_cell hg hv 0
  have hlt := World.block_lt_of_cell? _ _ hc
  unfold World.var? at hv ⊢
  simp only [hg, Option.bind_some] at hv ⊢
  rw [h.block g hlt]
  exact hv
theorem gSyntax : Ybaf.prog.globalNamed "strconv.ErrSyntax" = some 1 := by kernel_rfl
theorem gRange : Ybaf.prog.globalNamed "strconv.ErrRange" = some 2 := by kernel_rfl

theorem parse_any (F : Interp) (s : ByteArray) (tp0 tp1 : TypeId) (p0 p1 : Value) (w : World) (hF : F.answers w.tape) (hs : s.size ≤ 1048576 + 20)
    (hv0 : w.var? Ybaf.prog "strconv.ErrSyntax" = some #[.iface tp0 p0]) (hv1 : w.var? Ybaf.prog "strconv.ErrRange" = some #[.iface tp1 p1]) :
    Calls Ybaf.prog 5 #[.string s] w (Parsed s w) := by
  by_cases hi : Lib.lastIndexByte s 58 ≤ 0
  · exact parse_no F s w hF hs hi
  · rcases last_lt s 58 with h | ⟨i, hlt, h⟩
    · omega
    · have hsz : (s.extract (i + 1) s.size).size ≤ 281474976710656 := by rw [ByteArray.size_extract]; omega
      have hb0 : Below w.heap.size w (w.alloc (.cells #[.string ⟨#[]⟩, .int .u32 0] 24)) := (Below.refl _ w).alloc (Nat.le_refl _) _
      rcases hp : Lib.parseUintB 32 (s.extract (i + 1) s.size).data.toList with u | _ | _
      · exact parse_ok s i u w hs h (by omega) hlt hp
      · exact parse_bad F s i _ _ w hF hs h (by omega) hlt (by rw [numAt, hp]; rfl)
          ((Any.strconv_ParseUint_10_at32_syntax_var Ybaf.laysPu14 _ hsz hp tp0 p0 _ (var_stays hb0 gSyntax hv0)).mono fun e w' ⟨N, he, _, _, hb⟩ => ⟨⟨_, he⟩, hb.mono (by simp)⟩)
      · exact parse_bad F s i _ _ w hF hs h (by omega) hlt (by rw [numAt, hp]; rfl)
          ((Any.strconv_ParseUint_10_at32_range_var Ybaf.laysPu14 _ hsz hp tp1 p1 _ (var_stays hb0 gRange hv1)).mono fun e w' ⟨N, he, _, _, hb⟩ => ⟨⟨_, he⟩, hb.mono (by simp)⟩)

set_option maxHeartbeats 1000000 in
theorem whole_any (F : Interp) (s : ByteArray) (tp0 tp1 : TypeId) (p0 p1 : Value) (w : World) (hF : F.answers w.tape) (hs : s.size ≤ maxLen)
    (hv0 : w.var? Ybaf.prog "strconv.ErrSyntax" = some #[.iface tp0 p0]) (hv1 : w.var? Ybaf.prog "strconv.ErrRange" = some #[.iface tp1 p1]) :
    Calls Ybaf.prog 3 #[.string s] w fun e w' => e = .returned (.bool true) ∧ Below w.heap.size w w' := by
  unfold maxLen at hs
  by_cases hl : s.size ≤ 1048576
  · have cP := parse_any F s tp0 tp1 p0 p1 w hF (by omega) hv0 hv1
    have cM : ∀ w, Calls Ybaf.prog 6 #[.string s] w fun e w' => e = .returned (modelOf s) ∧ Below w.heap.size w w' := fun w => model_any s w (by omega)
    clear hv0 hv1
    rcases hp : posOf s with _ | ⟨i, u⟩
    · have hM := modelOf_none hp
      rw [hM] at cM
      clear hM
      go_enter Ybaf.func3, Ybaf.ntmps3
      go_wp2_with fail
      refine cP.mono ?_
      rintro e w1 ⟨hb1, he⟩
      rw [hp] at he
      obtain ⟨p, rfl⟩ := he
      clear hp cP
      go_wp2_with fail
      refine (cM _).mono ?_
      rintro e w2 ⟨rfl, hb2⟩
      obtain ⟨hc2, hf2⟩ := bcell hb2
      have hz : w1.heap.size < w2.heap.size := by have := hb2.size; simp at this; omega
      go_wp2
      go_ret
      exact ⟨rfl, ((hb1.alloc hb1.size _).trans (hb2.mono (by have := hb1.size; simp; omega))).alloc (by have := hb1.size; omega) _⟩
    · have hM := modelOf_some hp
      rw [hM] at cM
      clear hM
      go_enter Ybaf.func3, Ybaf.ntmps3
      go_wp2_with fail
      refine cP.mono ?_
      rintro e w1 ⟨hb1, he⟩
      rw [hp] at he
      obtain rfl := he
      clear hp cP
      go_wp2_with fail
      refine (cM _).mono ?_
      rintro e w2 ⟨rfl, hb2⟩
      obtain ⟨hc2, hf2⟩ := bcell hb2
      have hz : w1.heap.size < w2.heap.size := by have := hb2.size; simp at this; omega
      go_wp2
      go_ret
      exact ⟨rfl, ((hb1.alloc hb1.size _).trans (hb2.mono (by have := hb1.size; simp; omega))).alloc (by have := hb1.size; omega) _⟩
  · go_enter Ybaf.func3, Ybaf.ntmps3
    go_wp2
    go_ret
    exact ⟨rfl, Below.refl _ _⟩
end Go.Proofs.YbulkexofwFmt
