/-
  Seat b4039a: zzs4039bbuild by its contract.
-/
import Derived.Test.YbulkcepwKey
import Derived.OwnWalk
import Derived.Laws.Rows
import Derived.Deep.DeepCutAuto
namespace Go.Proofs.Ybulkcepw
open Go.RowKit

/-- The table's text. -/
def pickT (s : Int) : ByteArray := if s = 0 then { data := #[107, 101, 121] } else if s = 1 then { data := #[75, 101, 121] } else if s = 2 then { data := #[107, 101, 121, 115] } else if s = 3 then { data := #[] } else { data := #[97, 108, 108, 111, 119] }
def txtOf (sel : Int) (t : ByteArray) : ByteArray := if sel % 6 < 5 then pickT (sel % 6) else t
theorem pick_at (s : Int) (h0 : 0 ≤ s) (h1 : s < 5) : (#[Value.string { data := #[107, 101, 121] }, Value.string { data := #[75, 101, 121] }, Value.string { data := #[107, 101, 121, 115] }, Value.string { data := #[] }, Value.string { data := #[97, 108, 108, 111, 119] }] : Array Value)[s.toNat]? = some (.string (pickT s)) := by
  have : s = 0 ∨ s = 1 ∨ s = 2 ∨ s = 3 ∨ s = 4 := by omega
  rcases this with rfl | rfl | rfl | rfl | rfl <;> rfl
theorem info47m : (Yba.prog.info? 47).map (fun i => (i.zero, i.size, i.bytes)) = some (some (.agg (valCells none)), 7, 56) := by kernel_rfl


theorem there_of_owned {w : World} {base e size g n : Nat} {xs : List Value} (h : w.ownsRow base e size (.slice (some ⟨g, 0, none⟩) n n) n xs) : w.there g 0 (n * size) := by
  obtain ⟨_, ⟨h1, _⟩ | ⟨g', cap, cur, h1, _, hb, _, _, hsz, _⟩⟩ := h
  · cases h1
  · simp only [Value.slice.injEq, Option.some.injEq, Addr.mk.injEq] at h1
    obtain ⟨⟨rfl, _⟩, _, rfl⟩ := h1
    intro j hj
    have hj' : j < cur.size := by omega
    rw [Nat.zero_add]
    exact ⟨by simp [World.cell?, hb, hj'], by simp [World.frozen?, hb]⟩

theorem info27c (a b c d : Value) : (Yba.prog.info? 27).map (·.size) = some (#[a, b, c, d] : Array Value).size := info27
theorem heap_alloc2_new' (w : World) (A B : Obj) : ((w.alloc A).alloc B).heap[w.heap.size + 1]? = some B := heap_alloc2_new w A B
theorem tok_all (s : ByteArray) (k : Int) : (#[Value.string s, .pointer none, .int .i32 0, .int .u8 k] : Array Value).all (·.oneCell') = true :=
  all_oneCell_toArray (cs := [Value.string s, .pointer none, .int .i32 0, .int .u8 k]) (by intro v hv; simp at hv; rcases hv with rfl | rfl | rfl | rfl <;> rfl)
/-- The input's block. -/
def inObj (kw n8 fk sel : Int) (hv he : Bool) (t : ByteArray) : Obj := .cells #[.int .u8 kw, .bool hv, .bool he, .int .u8 n8, .int .u8 fk, .int .u8 sel, .string t] 23 (0, 0)
theorem in_cells {w : World} {b : Nat} {kw n8 fk sel : Int} {hv he : Bool} {t : ByteArray} (h : w.heap[b]? = some (inObj kw n8 fk sel hv he t)) :
    w.cell? ⟨b, 0, none⟩ = some (.int .u8 kw) ∧ w.cell? ⟨b, 1, none⟩ = some (.bool hv) ∧ w.cell? ⟨b, 2, none⟩ = some (.bool he) ∧ w.cell? ⟨b, 4, none⟩ = some (.int .u8 fk) := by
  have hc := fun j => cell_of_row w b j _ 23 (0, 0) h
  exact ⟨hc 0, hc 1, hc 2, hc 4⟩
theorem there_setCells' {w : World} {g N : Nat} (h : w.there g 0 N) (o : Nat) (vs : List Value) : (w.setCells g o vs).there g 0 N := fun j hj => World.there_setCells h g o vs j hj
theorem below_setCells_l {B g : Nat} {w0 : World} (hg : B ≤ g) : ∀ (vs : List Value) (w : World), Below B w0 w → ∀ o, Below B w0 (w.setCells g o vs)
  | [], _, h, _ => h
  | v :: r, w, h, o => below_setCells_l hg r (w.setCell ⟨g, o, none⟩ v) (h.setCell hg v) (o + 1)
theorem below_setCells {B g : Nat} {w0 w : World} (hb : Below B w0 w) (hg : B ≤ g) : ∀ (vs : List Value) (o : Nat), Below B w0 (w.setCells g o vs) := fun vs => below_setCells_l hg vs w hb
theorem there_sub {w : World} {g N o m : Nat} (h : w.there g 0 N) (hm : o + m ≤ N) : w.there g o m := fun j hj => by
  have := h (o + j) (by omega)
  rwa [Nat.zero_add] at this
theorem get_of {l : List Value} {i : Nat} {h : i < l.length} {v : Value} (e : l.toArray[i]? = some v) : l[i] = v := by
  simpa [List.getElem?_eq_getElem h] using e
theorem range_alloc {w : World} {b o : Nat} {cs : List Value} {x : Obj} (h : w.rangeAt b o cs) : (w.alloc x).rangeAt b o cs := fun j v hj => by
  have := h j v hj
  rw [((Below.refl _ w).alloc (Nat.le_refl _) x).cell (p := ⟨b, o + j, none⟩) (World.block_lt_of_cell? w _ this)]; exact this
theorem cell2_new (w : World) (A : Obj) (x y : Value) : ((w.alloc A).alloc (.cells #[x, y] 50)).cell? ⟨w.heap.size + 1, 1, none⟩ = some y :=
  cell_of_row _ _ 1 _ 50 (0, 0) (heap_alloc2_new w A (.cells #[x, y] 50))
theorem info31c (a b c d e f : Value) : (Yba.prog.info? 31).map (·.size) = some (#[a, b, c, d, e, f] : Array Value).size := info31
theorem st_all (s : ByteArray) (k : Int) (v : Option Addr) : (#[Value.string s, .pointer none, .int .i32 0, .int .u8 k, .pointer v, .pointer none] : Array Value).all (·.oneCell') = true :=
  all_oneCell_toArray (cs := [Value.string s, .pointer none, .int .i32 0, .int .u8 k, .pointer v, .pointer none]) (by intro v hv; simp at hv; rcases hv with rfl | rfl | rfl | rfl | rfl | rfl <;> rfl)
/-- What the law wants. -/
def wantB (kw : Int) (hv he : Bool) (n : Nat) (fk : Int) (t : ByteArray) : Bool := (kw != 1) && hv && he && ((n : Int) == 2) && (fk == 1) && (t.toList == [107, 101, 121])
/-- What lies in memory behind the build: the items' first token; the value; its list. -/
structure StMem (w : World) (ib n : Nat) (hv he : Bool) (fk : Int) (t : ByteArray) (v : Option Addr) : Prop where
  first : 0 < n → w.rangeAt ib 0 (tokL t fk)
  none : hv = false → v = Option.none
  bare : hv = true → he = false → ∃ vb, ib ≤ vb ∧ v = some ⟨vb, 0, Option.none⟩ ∧ w.heap[vb]? = some (.cells (valCells Option.none) 47 (0, 0))
  full : hv = true → he = true → ∃ vb eb, ib ≤ vb ∧ ib ≤ eb ∧ v = some ⟨vb, 0, Option.none⟩ ∧ w.heap[vb]? = some (.cells (valCells (some ⟨eb, 0, Option.none⟩)) 47 (0, 0)) ∧ w.cell? ⟨eb, 1, Option.none⟩ = some (.slice (some ⟨ib, 0, Option.none⟩) n n)

theorem range_kept {w w' : World} {b o : Nat} {cs : List Value} (hc : ∀ j v, cs[j]? = some v → w.cell? ⟨b, o + j, none⟩ = some v) (hk : b < w.heap.size → w'.heap[b]? = w.heap[b]?) : w'.rangeAt b o cs := fun j v hj => by
  have h := hc j v hj
  exact (World.cell?_of_block (w := w) (a := ⟨b, o + j, none⟩) (hk (World.block_lt_of_cell? w ⟨b, o + j, none⟩ h))).trans h
theorem StMem.kept {w w' : World} {ib n : Nat} {hv he : Bool} {fk : Int} {t : ByteArray} {v : Option Addr} (h : StMem w ib n hv he fk t v) (hk : ∀ b, ib ≤ b → b < w.heap.size → w'.heap[b]? = w.heap[b]?) : StMem w' ib n hv he fk t v := by
  refine ⟨fun h0 => range_kept (h.first h0) (hk ib (Nat.le_refl _)), h.none, fun h1 h2 => ?_, fun h1 h2 => ?_⟩
  · obtain ⟨vb, hi, e, hb⟩ := h.bare h1 h2
    exact ⟨vb, hi, e, (hk vb hi (Array.getElem?_eq_some_iff.1 hb).1).trans hb⟩
  · obtain ⟨vb, eb, hi, hi2, e, hb, hc⟩ := h.full h1 h2
    exact ⟨vb, eb, hi, hi2, e, (hk vb hi (Array.getElem?_eq_some_iff.1 hb).1).trans hb, (World.cell?_of_block (w := w) (a := ⟨eb, 1, Option.none⟩) (hk eb hi2 (World.block_lt_of_cell? w _ hc))).trans hc⟩

section
variable {P : Program}
theorem results_cell_tmp2 {fn : Func} {p q r : Tmp} {ty : TypeId} (h : fn.results = #[.cell p ty, .tmp q, .tmp r]) (tmps : Array Value) (w : World) (g : Nat) (t : TypeId) (cs : Array Value) (fr : Nat × Nat) (d : TypeDesc)
    (hp : tmps.getD p undef = .pointer (some ⟨g, 0, none⟩)) (hg : w.heap[g]? = some (.cells cs t fr))
    (hu : P.underlying ty = some d) (hd : (match d with | .struct _ | .array _ _ => true | _ => false) = true) (hi : (P.info? ty).map (·.size) = some cs.size) :
    (results fn tmps).run P w = .ok (.tuple #[.agg cs, tmps.getD q undef, tmps.getD r undef]) w := by
  have hp' : tmps[p]?.getD undef = .pointer (some ⟨g, 0, none⟩) := by simpa using hp
  simp [results, h, hp', asAddr, run_loadVar_row w g t ty cs fr d hg hu hd hi]
end
theorem below_setRow' {B g : Nat} {w0 w : World} (hb : Below B w0 w) (hBg : B ≤ g) (cs : Array Value) : Below B w0 (w.setRow g cs) :=
  hb.trans ⟨rfl, rfl, rfl, by simp [World.setRow], fun k hk => by simp [World.setRow, Array.getElem?_modify, show g ≠ k by omega]⟩
theorem setRow_old {w : World} {g k : Nat} (cs : Array Value) (h : g ≠ k) : (w.setRow g cs).heap[k]? = w.heap[k]? := by
  simp [World.setRow, Array.getElem?_modify, h]

set_option maxHeartbeats 1600000 in
set_option maxRecDepth 100000 in
theorem build5 (kw n8 fk sel : Int) (n : Nat) (hv he : Bool) (t : ByteArray) (w : World) (hkw : 0 ≤ kw ∧ kw ≤ 255) (hn8 : 0 ≤ n8 ∧ n8 ≤ 255) (hfk : 0 ≤ fk ∧ fk ≤ 255) (hsel : 0 ≤ sel ∧ sel ≤ 255) (hn : n8 % 5 = (n : Int)) :
    Calls Yba.prog 5 #[.agg #[.int .u8 kw, .bool hv, .bool he, .int .u8 n8, .int .u8 fk, .int .u8 sel, .string t]] w fun e w' => ∃ v, e = .returned (.tuple #[stVal { data := #[107] } (kw % 8) v, .slice (some ⟨w.heap.size + 1 + 1 + 1, 0, none⟩) n n, .bool (wantB (kw % 8) hv he n (fk % 8) (txtOf sel t))]) ∧ Below w.heap.size w w' ∧ StMem w' (w.heap.size + 1 + 1 + 1) n hv he (fk % 8) (txtOf sel t) v := by
  obtain ⟨i0, hi0, hz0, hz1, hz2⟩ := info_parts info47m
  have hn5 : n < 5 := by omega
  go_enter Yba.func5, Yba.ntmps5
  go_upto_if 20 with (fail)
  go_cut [6] (fun s6 wx => s6 = .string (txtOf sel t) ∧ wx = ((w.alloc (.cells #[.int .u8 kw, .bool hv, .bool he, .int .u8 n8, .int .u8 fk, .int .u8 sel, .string t] 23)).alloc (.cells #[.string { data := #[] }, .pointer none, .int .i32 0, .int .u8 0, .pointer none, .pointer none] 31)).alloc (.cells #[.string { data := #[107, 101, 121] }, .string { data := #[75, 101, 121] }, .string { data := #[107, 101, 121, 115] }, .string { data := #[] }, .string { data := #[97, 108, 108, 111, 119] }] 48))
  case first =>
    go_wp2
    · have hs : sel % 6 < 5 := by assumption
      have hpk := pick_at (sel % 6) (by omega) hs
      go_meet
      case rel => exact ⟨by rw [txtOf, if_pos hs]; exact get_of hpk, rfl⟩
    · have hs : ¬ sel % 6 < 5 := by omega
      go_meet
      case rel => exact ⟨by rw [txtOf, if_neg hs], rfl⟩
  case rest =>
    obtain ⟨rfl, rfl⟩ := hcut
    go_wp2_with (first | (at_make; go_must (refine wpList_make_full _ rfl (.tmp 31) (.tmp 31) 32 rfl (w.heap.size + 1 + 1 + 1) 47 i0 _ 7 Yba.underlying32 hi0 hz0 hz1 .i64 .i64 _ _ n rfl rfl rfl rfl (by rw [hz2]; omega) (by unfold maxLen; omega) (by simp) ?_); intro w1 hown hgr))
    have hth := there_of_owned hown
    have hsz1 : w.heap.size + 1 + 1 + 1 ≤ w1.heap.size := by have := hgr.size; simp at this; omega
    simp only [World.size_alloc] at hth
    have hB1 : Below w.heap.size w w1 := ((((Below.refl _ w).alloc (Nat.le_refl _) _).alloc (by simp) _).alloc (by simp; omega) _).grown hgr (by simp; omega) (fun k hk => by cases hk)
    have hbx : w1.heap[w.heap.size]? = some (.cells #[.int .u8 kw, .bool hv, .bool he, .int .u8 n8, .int .u8 fk, .int .u8 sel, .string t] 23 (0, 0)) := by
      rw [hgr.block _ (by simp; omega) (by simp), Below.heap_alloc _ _ _ (by simp; omega), Below.heap_alloc _ _ _ (by simp)]
      exact heap_alloc_new _ _
    have hrx : w1.heap[w.heap.size + 1]? = some (.cells #[.string { data := #[] }, .pointer none, .int .i32 0, .int .u8 0, .pointer none, .pointer none] 31 (0, 0)) := by
      rw [hgr.block _ (by simp) (by simp), Below.heap_alloc _ _ _ (by simp)]
      exact heap_alloc2_new' _ _ _
    clear hown hgr
    have HBX := (show Hid (w1.heap[w.heap.size]? = some (.cells #[.int .u8 kw, .bool hv, .bool he, .int .u8 n8, .int .u8 fk, .int .u8 sel, .string t] 23 (0, 0))) from hbx)
    have HRX := (show Hid (w1.heap[w.heap.size + 1]? = some (.cells #[.string { data := #[] }, .pointer none, .int .i32 0, .int .u8 0, .pointer none, .pointer none] 31 (0, 0))) from hrx)
    clear hbx hrx
    go_loopw [9] (fun vi wr => ∃ i : Nat, i ≤ n ∧ vi = .int .i64 i ∧ Hid (wr.there (w.heap.size + 1 + 1 + 1) 0 (n * 7)) ∧ Hid (Below (w.heap.size + 1 + 1 + 1) w1 wr)) (fun vi _ => n - (intOf vi).toNat)
    case atStart => exact ⟨0, by omega, rfl, hth, Below.refl _ _⟩
    case round =>
      obtain ⟨i, hi, rfl, hthr, hbr⟩ := hrel
      by_cases hlt : i < n
      · go_wp2_with (first | (with_reducible show wpList _ _ _ (Oper.mk _ (Op.store 27 (Operand.tmp 44) (Operand.tmp 42)) _ _ _ _ :: _) _ _; go_must (refine wpList_store_mid rfl 27 (.tmp 44) (.tmp 42) rfl (w.heap.size + 1 + 1 + 1) _ _ rfl rfl (by exact there_sub hthr.out (by simp; omega)) (info27c _ _ _ _) (tok_all _ _) ?_)))
        go_roundw
        case rel => exact ⟨i + 1, by omega, by go_num, there_setCells' hthr.out _ _, below_setCells hbr.out (Nat.le_refl _) _ _⟩
        case measure => simp [intOf]; omega
      · go_upto_if 46 with (fail)
        go_cut [] (fun wx => Hid (0 < n → wx.rangeAt (w.heap.size + 1 + 1 + 1) 0 (tokL (txtOf sel t) (fk % 8))) ∧ Hid (Below (w.heap.size + 1 + 1 + 1) w1 wx))
        case first =>
          have hin := in_cells (show wr.heap[w.heap.size]? = some (inObj kw n8 fk sel hv he t) from (hbr.out.block _ (by omega)).trans HBX.out)
          obtain ⟨c0, c1, c2, c4⟩ := hin
          by_cases h0 : 0 < n
          · go_wp2_with (first | (with_reducible show wpList _ _ _ (Oper.mk _ (Op.store 27 (Operand.tmp 54) (Operand.tmp 52)) _ _ _ _ :: _) _ _; go_must (refine wpList_store_mid rfl 27 (.tmp 54) (.tmp 52) rfl (w.heap.size + 1 + 1 + 1) 0 _ rfl rfl (by exact there_sub hthr.out (by simp; omega)) (info27c _ _ _ _) (tok_all _ _) ?_)))
            go_meet
            case rel => exact ⟨fun _ => World.rangeAt_setCells_same _ _ _ _ (there_sub hthr.out (by simp; omega)), below_setCells hbr.out (Nat.le_refl _) _ _⟩
          · go_wp2
            go_meet
            case rel => exact ⟨fun h => absurd h h0, hbr⟩
        case rest =>
          obtain ⟨hfirst, hbc⟩ := hcut
          clear hbr hthr hth
          have hin := in_cells (show wc.heap[w.heap.size]? = some (inObj kw n8 fk sel hv he t) from (hbc.out.block _ (by omega)).trans HBX.out)
          obtain ⟨c0, c1, c2, c4⟩ := hin
          have hszc : w.heap.size + 1 + 1 + 1 ≤ wc.heap.size := by have := hbc.out.size; omega
          have c2' : ∀ o, (wc.alloc o).cell? ⟨w.heap.size, 2, none⟩ = some (.bool he) := fun o => (((Below.refl _ wc).alloc (Nat.le_refl _) o).cell (p := ⟨w.heap.size, 2, none⟩) (by simp; omega)).trans c2
          go_upto_if 56 with (fail)
          go_cut [10] (fun s10 wx => ∃ v, s10 = .pointer v ∧ Hid (StMem wx (w.heap.size + 1 + 1 + 1) n hv he (fk % 8) (txtOf sel t) v) ∧ Hid (Below (w.heap.size + 1 + 1 + 1) w1 wx))
          case first =>
            cases hv with
            | false =>
              go_wp2
              go_meet
              case rel => exact ⟨none, rfl, ⟨hfirst.out, fun _ => rfl, (fun h => nomatch h), (fun h => nomatch h)⟩, hbc⟩
            | true =>
              cases he with
              | false =>
                go_wp2
                go_meet
                case rel => exact ⟨some ⟨wc.heap.size, 0, none⟩, rfl, ⟨fun h => range_alloc (hfirst.out h), (fun h => nomatch h), fun _ _ => ⟨_, hszc, rfl, heap_alloc_new _ _⟩, (fun _ h => nomatch h)⟩, hbc.out.alloc hszc _⟩
              | true =>
                go_wp2
                go_meet
                case rel => exact ⟨some ⟨wc.heap.size, 0, none⟩, rfl, ⟨fun h => range_alloc (range_alloc (hfirst.out h)), (fun h => nomatch h), (fun _ h => nomatch h), fun _ _ => ⟨wc.heap.size, wc.heap.size + 1, hszc, by omega, rfl, heap_alloc2_old _ _ _, cell2_new _ _ _ _⟩⟩, (hbc.out.alloc hszc _).alloc (by simp; omega) _⟩
          case rest =>
            obtain ⟨v, rfl, hst, hbd⟩ := hcut
            clear hfirst hbc c0 c1 c2 c4 c2' hszc
            have hin := in_cells (show wc.heap[w.heap.size]? = some (inObj kw n8 fk sel hv he t) from (hbd.out.block _ (by omega)).trans HBX.out)
            obtain ⟨c0, c1, c2, c4⟩ := hin
            have hszc : w.heap.size + 1 + 1 + 1 ≤ wc.heap.size := by have := hbd.out.size; omega
            have hal : ∀ o, Below wc.heap.size wc (wc.alloc o) := fun o => (Below.refl _ wc).alloc (Nat.le_refl _) o
            have d0 : ∀ o, (wc.alloc o).cell? ⟨w.heap.size, 0, none⟩ = some (.int .u8 kw) := fun o => ((hal o).cell (p := ⟨w.heap.size, 0, none⟩) (by simp; omega)).trans c0
            have d1 : ∀ o, (wc.alloc o).cell? ⟨w.heap.size, 1, none⟩ = some (.bool hv) := fun o => ((hal o).cell (p := ⟨w.heap.size, 1, none⟩) (by simp; omega)).trans c1
            have d2 : ∀ o, (wc.alloc o).cell? ⟨w.heap.size, 2, none⟩ = some (.bool he) := fun o => ((hal o).cell (p := ⟨w.heap.size, 2, none⟩) (by simp; omega)).trans c2
            have d4 : ∀ o, (wc.alloc o).cell? ⟨w.heap.size, 4, none⟩ = some (.int .u8 fk) := fun o => ((hal o).cell (p := ⟨w.heap.size, 4, none⟩) (by simp; omega)).trans c4
            clear hal c1 c2 c4
            go_upto_region 19 with (fail)
            go_cut [0, 7, 12] (fun _ _ s12 wx => s12 = .bool (wantB (kw % 8) hv he n (fk % 8) (txtOf sel t)) ∧ wx = wc.alloc (.cells #[.string { data := #[107] }, .pointer none, .int .i32 0, .int .u8 (kw % 8), .pointer v, .pointer none] 31))
            case first =>
              go_wp2
              all_goals
                go_meet
                case rel => exact ⟨congrArg Value.bool (by unfold wantB; simp_all), by first | rfl | simp_all⟩
            case rest =>
              obtain ⟨rfl, rfl⟩ := hcut
              have HRY : Hid ((wc.alloc (.cells #[.string { data := #[107] }, .pointer none, .int .i32 0, .int .u8 (kw % 8), .pointer v, .pointer none] 31)).heap[w.heap.size + 1]? = some (.cells #[.string { data := #[] }, .pointer none, .int .i32 0, .int .u8 0, .pointer none, .pointer none] 31 (0, 0))) := (Below.heap_alloc _ _ _ (by omega)).trans ((hbd.out.block _ (by omega)).trans HRX.out)
              go_wp2_with (first | (with_reducible show wpList _ _ _ (Oper.mk _ (Op.store 31 (Operand.tmp 2) (Operand.tmp 99)) _ _ _ _ :: _) _ _; go_must (refine wpList_store_row rfl 31 (.tmp 2) (.tmp 99) rfl (w.heap.size + 1) #[.string { data := #[107] }, .pointer none, .int .i32 0, .int .u8 (kw % 8), .pointer v, .pointer none] rfl rfl 31 _ HRY.out (info31c _ _ _ _ _ _) rfl (st_all _ _ _) ?_)))
              refine bodyPost_ret (v := .tuple #[stVal { data := #[107] } (kw % 8) v, .slice (some ⟨w.heap.size + 1 + 1 + 1, 0, none⟩) n n, .bool (wantB (kw % 8) hv he n (fk % 8) (txtOf sel t))]) (results_cell_tmp2 Yba.results5 _ _ (w.heap.size + 1) 31 _ (0, 0) _ rfl (setRow_heap _ _ _ _ _ _ HRY.out) Yba.underlying31 rfl (info31c _ _ _ _ _ _)) rfl ⟨v, rfl, ?_, ?_⟩
              · exact below_setRow' ((hB1.trans (hbd.out.mono (by omega))).alloc (by omega) _) (by omega) _
              · exact hst.out.kept (fun b hib hb => by
                  rw [setRow_old _ (by omega), Below.heap_alloc _ _ _ hb])
end Go.Proofs.Ybulkcepw
