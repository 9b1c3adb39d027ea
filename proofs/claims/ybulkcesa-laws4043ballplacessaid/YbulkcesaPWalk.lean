/-
  Seat b4043a: the walk of LawS4043BAllPlaces.
-/
import Derived.Test.YbulkcesaCost
import Derived.Test.YbulkcesaBWalk
import Derived.Test.YbulkcesaGrow
namespace Go.Proofs.Ybulkcesa
open Go.RowKit

theorem info36 : (Yba.prog.info? 36).map (fun i => (i.zero, i.size, i.bytes)) = some (some (.slice none 0 0), 1, 24) := by kernel_rfl
theorem info5 : (Yba.prog.info? 5).map (fun i => (i.zero, i.size, i.bytes)) = some (some (.int .u8 0), 1, 1) := by kernel_rfl

theorem short_of {LP : List (List Int)} (h : ∀ L ∈ LP, L.length ≤ 1024) : short LP := fun i hi => by
  rw [List.getD_eq_getElem?_getD, List.getElem?_eq_getElem hi]
  exact h _ (List.getElem_mem _)

set_option maxHeartbeats 1600000 in
set_option maxRecDepth 100000 in
theorem places5 (a : Option Addr) (len cap : Nat) (Z : List Int) (w : World) (h : LineAt w a len Z) :
    Calls Yba.prog 5 #[.slice a len cap] w fun e w' => e = .returned (.bool true) ∧ Below w.heap.size w w' := by
  have HA : Hid (LineAt w a len Z) := h
  clear h
  by_cases hn : 1024 < len
  · go_enter Yba.func5, Yba.ntmps5
    go_wp2
    go_ret
    exact ⟨rfl, Below.refl _ _⟩
  · obtain ⟨i5, hi5, hz50, hz51, hz52⟩ := info_parts info5
    obtain ⟨i36, hi36, hz360, hz361, hz362⟩ := info_parts info36
    have HI5 : Hid (Yba.prog.info? 5 = some i5 ∧ i5.zero = some (.int .u8 0) ∧ i5.size = 1 ∧ i5.bytes = 1) := ⟨hi5, hz50, hz51, hz52⟩
    have HI36 : Hid (Yba.prog.info? 36 = some i36 ∧ i36.zero = some (.slice none 0 0) ∧ i36.size = 1 ∧ i36.bytes = 24) := ⟨hi36, hz360, hz361, hz362⟩
    clear hi5 hz50 hz51 hz52 hi36 hz360 hz361 hz362
    go_enter Yba.func5, Yba.ntmps5
    go_wp2
    go_loopw [4, 5, 6] (fun vl vc vi wr => ∃ (k gl lcap gc ccap : Nat) (vs : List Value) (LP : List (List Int)) (cb : List Int), k ≤ len ∧ vi = .int .i64 k ∧ vl = .slice (some ⟨gl, 0, none⟩) vs.length lcap ∧ vc = .slice (some ⟨gc, 0, none⟩) cb.length ccap ∧ vs.length + cb.length ≤ k ∧ Hid (HasL (w.heap.size + 1) wr gl lcap vs LP) ∧ Hid (Cur (w.heap.size + 1) wr gc ccap vs cb) ∧ Hid (∀ L ∈ LP, L.length ≤ 1024) ∧ Hid (Below (w.heap.size + 1) (w.alloc alphaO) wr)) (fun _ _ vi _ => len - (intOf vi).toNat)
    case atStart =>
      exact ⟨0, w.heap.size + 1, 0, w.heap.size + 1 + 1, 0, [], [], [], by omega, rfl, rfl, rfl, by simp, (start_has w).1, (start_has w).2, (fun L hL => by cases hL), ((Below.refl _ (w.alloc alphaO)).alloc (by simp) _).alloc (by simp) _⟩
    case round =>
      obtain ⟨k, gl, lcap, gc, ccap, vs, LP, cb, hk, rfl, rfl, rfl, hsum, hL, hC, hsh, hbel⟩ := hrel
      have hBw : Below w.heap.size w wr := ((Below.refl _ w).alloc (Nat.le_refl _) alphaO).trans (hbel.out.mono (by omega))
      have hsz : w.heap.size + 1 ≤ wr.heap.size := by have := hbel.out.size; simp at this; omega
      have HB : Hid (Below w.heap.size w wr) := hBw
      clear hBw
      by_cases hlt : k < len
      · obtain ⟨b, off, ha, hc⟩ := (HA.out.kept (fun b hb => HB.out.block b hb)).rd k hlt
        subst ha
        have hbd := HA.out.bd k
        generalize Z.getD k 0 = x at hc hbd
        obtain ⟨m, hm⟩ : ∃ m : Nat, x % 8 = (m : Int) := ⟨(x % 8).toNat, by omega⟩
        have hm8 : m < 8 := by omega
        by_cases hm6 : m < 6
        · obtain ⟨y, hy, hya⟩ := alpha_at w m hm6
          have hyc : wr.cell? ⟨w.heap.size, m, none⟩ = some (.int .u8 y) := (hbel.out.cell (p := ⟨w.heap.size, m, none⟩) (by show w.heap.size < w.heap.size + 1; omega)).trans hya
          clear hya
          go_wp2_with (at_builtin; refine wpList_append_lies _ rfl (.tmp 36) (.tmp 40) 36 rfl (w.heap.size + 1) 5 i5 (.int .u8 0) 1 1 Yba.underlying36 HI5.out.1 HI5.out.2.1 HI5.out.2.2.1 HI5.out.2.2.2 rfl (by decide) (.slice (some ⟨gc, 0, none⟩) cb.length ccap) cb.length (bytesV cb) rfl (hC.out.own.alloc _) ⟨wr.heap.size, 0, none⟩ 1 1 [.int .u8 y] rfl rfl (new_one _ _ _) (fun u hu => by simp at hu; subst hu; rfl) (by decide) (by unfold maxLen; omega) (by omega) (by simp; omega) (wr.heap.size + 1) (by simp) ?_; intro g cap' w1 hown hgrow hat hlt1)
          have R := byte_on hL.out hC.out hgrow hown hat hy
          have hBn := below_on hbel.out hsz hgrow (hC.out.own.lt gc rfl).1
          go_roundw
          case rel => exact ⟨k + 1, gl, lcap, g, cap', vs, LP, cb ++ [y], by omega, by go_num, rfl, by rw [List.length_append]; rfl, by rw [List.length_append, List.length_singleton]; omega, R.1, R.2, hsh, hBn⟩
          case measure => simp [intOf]; omega
        · go_wp2_with (at_builtin; refine wpList_append_lies _ rfl (.tmp 31) (.tmp 33) 35 rfl (w.heap.size + 1) 36 i36 (.slice none 0 0) 1 24 Yba.underlying35 HI36.out.1 HI36.out.2.1 HI36.out.2.2.1 HI36.out.2.2.2 rfl (by decide) (.slice (some ⟨gl, 0, none⟩) vs.length lcap) vs.length vs rfl (hL.out.lines.alloc _) ⟨wr.heap.size, 0, none⟩ 1 1 [.slice (some ⟨gc, 0, none⟩) cb.length ccap] rfl rfl (new_one _ _ _) (fun u hu => by simp at hu; subst hu; rfl) (by decide) (by unfold maxLen; omega) (by omega) (by simp; omega) (wr.heap.size + 1) (by simp) ?_; intro g cap' w1 hown hgrow hat hlt1)
          have R := line_on hL.out hC.out hgrow hown
          have hBn := below_on hbel.out hsz hgrow (hL.out.lines.lt gl rfl).1
          have hs1 : w.heap.size + 1 ≤ w1.heap.size := by have := hBn.size; simp at this; omega
          have hSH : Hid (∀ L ∈ LP ++ [cb], L.length ≤ 1024) := fun L hL => by
            rcases List.mem_append.1 hL with hL | hL
            · exact hsh.out L hL
            · simp at hL; subst hL; omega
          go_roundw
          case rel => exact ⟨k + 1, g, cap', w1.heap.size, 0, vs ++ [sl gc cb.length ccap], LP ++ [cb], [], by omega, by go_num, by rw [List.length_append]; rfl, rfl, by rw [List.length_append, List.length_singleton, List.length_nil]; omega, R.alloc _, cur_new R hs1, hSH, hBn.alloc hs1 _⟩
          case measure => simp [intOf]; omega
      · have hkl : k = len := by omega
        subst hkl
        go_upto_if 44 with (fail)
        go_cut [4, 45, 46, 47, 48] (fun s4 _ _ _ _ wx => ∃ (gl n lcap : Nat) (LP : List (List Int)), s4 = .slice (some ⟨gl, 0, none⟩) n lcap ∧ n ≤ 1024 ∧ Hid (LinesAt wx (some ⟨gl, 0, none⟩) n LP) ∧ Hid (short LP) ∧ Hid (Below w.heap.size w wx))
        case first =>
          by_cases hcb : 0 < cb.length
          · go_wp2_with (at_builtin; refine wpList_append_lies _ rfl (.tmp 45) (.tmp 47) 35 rfl (w.heap.size + 1) 36 i36 (.slice none 0 0) 1 24 Yba.underlying35 HI36.out.1 HI36.out.2.1 HI36.out.2.2.1 HI36.out.2.2.2 rfl (by decide) (.slice (some ⟨gl, 0, none⟩) vs.length lcap) vs.length vs rfl (hL.out.lines.alloc _) ⟨wr.heap.size, 0, none⟩ 1 1 [.slice (some ⟨gc, 0, none⟩) cb.length ccap] rfl rfl (new_one _ _ _) (fun u hu => by simp at hu; subst hu; rfl) (by decide) (by unfold maxLen; omega) (by omega) (by simp; omega) (wr.heap.size + 1) (by simp) ?_; intro g cap' w1 hown hgrow hat hlt1)
            have R := line_on hL.out hC.out hgrow hown
            have hBn := below_on hbel.out hsz hgrow (hL.out.lines.lt gl rfl).1
            have hSH : Hid (short (LP ++ [cb])) := short_of fun L hL => by
              rcases List.mem_append.1 hL with hL | hL
              · exact hsh.out L hL
              · simp at hL; subst hL; omega
            have hat2 := R.at
            rw [List.length_append, List.length_singleton] at hat2
            go_meet
            case rel => exact ⟨g, vs.length + 1, cap', LP ++ [cb], rfl, by omega, hat2, hSH, ((Below.refl _ w).alloc (Nat.le_refl _) alphaO).trans (hBn.mono (by omega))⟩
          · go_wp2
            go_meet
            case rel => exact ⟨gl, vs.length, lcap, LP, rfl, by omega, hL.out.at, short_of hsh.out, HB⟩
        case rest =>
          clear hL hC hsh hbel HB hsz hsum HI5 HI36
          obtain ⟨gl, n, lcap, LP, rfl, hn4, hLA, hSH, hBx⟩ := hcut
          have hAl : Below wc.heap.size wc (wc.alloc (layO (some ⟨gl, 0, none⟩) n lcap)) := (Below.refl _ wc).alloc (Nat.le_refl _) _
          have hS : (wc.alloc (layO (some ⟨gl, 0, none⟩) n lcap)).heap[wc.heap.size]? = some (layO (some ⟨gl, 0, none⟩) n lcap) := heap_alloc_new _ _
          have q0 := cell_of_row _ _ 0 _ 39 (0, 0) hS
          have q1 := cell_of_row _ _ 1 _ 39 (0, 0) hS
          have hcon := cost10_nil wc.heap.size n lcap n (some ⟨gl, 0, none⟩) LP (wc.alloc (layO (some ⟨gl, 0, none⟩) n lcap)) q0 q1 (World.frozen?_alloc_new _ _ _ _) (hLA.out.below hAl) hn4 hSH.out (Nat.le_refl _)
          have HC : Hid (Calls Yba.prog 10 #[.pointer (some ⟨wc.heap.size, 0, none⟩), .int .i64 n] (wc.alloc (layO (some ⟨gl, 0, none⟩) n lcap)) fun e w' => e = .returned (.int .i64 (mdl LP n)) ∧ Below wc.heap.size wc w' ∧ w'.cell? ⟨wc.heap.size, 1, none⟩ = some (.slice (some ⟨wc.heap.size + 1, 0, none⟩) (n + 1) (n + 1)) ∧ w'.rowIs (wc.heap.size + 1) 21 (n + 1) (fun j => .int .i32 (mdl LP j))) := hcon.mono fun e w' hh => ⟨hh.1, hAl.trans hh.2.1, by simpa using hh.2.2.1, by simpa using hh.2.2.2⟩
          clear hcon q0 q1 hS hAl HA hlt hk
          go_wp2_with fail
          refine HC.out.mono ?_
          rintro e w2 ⟨rfl, hb2, hcl, hrw⟩
          have hLA2 : LinesAt w2 (some ⟨gl, 0, none⟩) n LP := hLA.out.below hb2
          have HL2 : Hid (LinesAt w2 (some ⟨gl, 0, none⟩) n LP) := hLA2
          have HRW : Hid (w2.rowIs (wc.heap.size + 1) 21 (n + 1) (fun j => .int .i32 (mdl LP j))) := hrw
          have HB2 : Hid (Below w.heap.size w w2) := hBx.out.trans (hb2.mono hBx.out.size)
          have HCL : Hid (w2.cell? ⟨wc.heap.size, 1, none⟩ = some (.slice (some ⟨wc.heap.size + 1, 0, none⟩) (n + 1) (n + 1))) := hcl
          clear hLA2 hrw hb2 HC hLA hBx
          go_wp2_with fail
          refine (model11 (some ⟨gl, 0, none⟩) n lcap LP n w2 HL2.out hn4 hSH.out (Nat.le_refl _)).mono ?_
          rintro e w3 ⟨rfl, hw⟩
          have hw := hw.symm
          subst hw
          go_wp2
          clear hcl
          go_loop [10] (fun vi => ∃ i : Nat, i ≤ n ∧ vi = .int .i64 i) (fun vi => n - (intOf vi).toNat)
          case atStart => exact ⟨0, by omega, rfl⟩
          case round =>
            obtain ⟨i, hi, rfl⟩ := hrel
            by_cases hin : i < n
            · go_wp2_with fail
              refine (cost10_had wc.heap.size (wc.heap.size + 1) n i LP w2 HCL.out HRW.out HL2.out.len_eq hn4 hSH.out hi).mono ?_
              rintro e w3 ⟨rfl, hw⟩
              have hw := hw.symm
              subst hw
              go_wp2_with fail
              refine (model11 (some ⟨gl, 0, none⟩) n lcap LP i w2 HL2.out hn4 hSH.out hi).mono ?_
              rintro e w3 ⟨rfl, hw⟩
              have hw := hw.symm
              subst hw
              go_wp2
              go_round
              case rel => exact ⟨i + 1, by omega, by go_num⟩
              case measure => simp [intOf]; omega
            · go_wp2
              go_ret
              exact ⟨rfl, HB2.out⟩
end Go.Proofs.Ybulkcesa
