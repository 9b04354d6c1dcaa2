/- The law's row, proved: the walk, joined to the given statement. -/
import Derived.Test.YtaflcjoagfnhfaaGreatDoorRows
import Derived.Test.YtaflcjoagfnhfaaGreatDoorZD
import Derived.ProofKit
import Derived.LaidMore
import Derived.LaidHandle
import Derived.OpenShut
import Derived.OpenVars
import Derived.Stop.Joined
namespace Go.Proofs.YtaflcjoagfnhfaaGreatDoor
open Go Go.ChangeShapes Go.WideShapes Go.ChangeAt Go.WideMaps Go.WideElems Go.RowKit

theorem Tryz.own : ownKnob Tryz.prog.godebug = none := by kernel_rfl
theorem Tryz.laidOut : laidOutB Tryz.prog = true := by kernel_rfl
theorem gLens : Tryz.prog.globalNamed "loop.example/pub-g03445/pub/image/tiff.lengths" = some 5 := by kernel_rfl
theorem tLens : (Tryz.prog.globals[5]?).map (·.type) = some 155 := by kernel_rfl

/-- The memory that was there. -/
def sameAs (W : World) : V.As where
  fp b := b < W.heap.size
  holds w := w.os = W.os ∧ w.tape = W.tape ∧ w.output = W.output ∧ W.heap.size ≤ w.heap.size ∧ ∀ b, b < W.heap.size → w.heap[b]? = W.heap[b]?
  loc := fun w w' h1 h2 h3 hb h => by
    obtain ⟨a1, a2, a3, a4, a5⟩ := h
    refine ⟨h1.trans a1, h2.trans a2, h3.trans a3, ?_, fun b h => (hb b h).trans (a5 b h)⟩
    rcases Nat.eq_zero_or_pos W.heap.size with e | e
    · omega
    · have h4 := (hb (W.heap.size - 1) (by omega)).trans (a5 (W.heap.size - 1) (by omega))
      have h5 : W.heap[W.heap.size - 1]? = some (W.heap[W.heap.size - 1]'(by omega)) := Array.getElem?_eq_getElem (by omega)
      rw [h5] at h4
      have := (Array.getElem?_eq_some_iff.1 h4).1
      omega
  lt := fun w h b hb => by have := h.2.2.2.1; omega
theorem sameAs_below {W w : World} (h : (sameAs W).holds w) : Below W.heap.size W w := ⟨h.1, h.2.1, h.2.2.1, h.2.2.2.1, h.2.2.2.2⟩
theorem sameAs_self (W : World) : V.Sat W [sameAs W] := ⟨⟨rfl, rfl, rfl, Nat.le_refl _, fun _ _ => rfl⟩, fun _ h => (by cases h), trivial⟩
theorem sameAs_cell {W w : World} (h : V.Sat w [sameAs W]) {a : Addr} {u : Value} (hc : W.cell? a = some u) : w.cell? a = some u := by
  have hlt := World.block_lt_of_cell? W a hc
  rw [World.cell?_of_block (h.1.2.2.2.2 a.block hlt)]
  exact hc
theorem trodAll_below {H : Type} {enc : TypeId × Value → H} {P : Program} (hl : laidOutB P = true) {W W' : World} (hb : Below W.heap.size W W') :
    ∀ {ts : List TypeId} {vs : List Value} {ds : List (DataW H)} {ps : List MemPlace}, ts.all (fun t => P.readableRec t && decide (t < P.types.size)) = true → DataW.TrodAll enc P W 0 (fun _ => true) true ts vs ds ps → (∀ x ∈ ps, x.block < W.heap.size) →
      DataW.TrodAll enc P W' 0 (fun b => decide (b < W.heap.size)) true ts vs ds ps
  | [], vs, ds, ps, _, h, _ => by
    obtain ⟨rfl, rfl, rfl⟩ := trodAll_nil h
    exact rfl
  | t :: ts, vs, ds, ps, ht, h, hlt => by
    obtain ⟨v, vs', d, ds', p, q, rfl, rfl, rfl, hd, hrest⟩ := trodAll_cons h
    simp only [List.all_cons, Bool.and_eq_true, decide_eq_true_eq] at ht
    exact ⟨p, q, Below.trod hl ht.1.1 ht.1.2 hd hb (fun x hx => hlt x (List.mem_append_left _ hx)), trodAll_below hl hb (by simpa using ht.2) hrest (fun x hx => hlt x (List.mem_append_right _ hx)), rfl⟩
theorem keptBut_below {W W' : World} (hb : Below W.heap.size W W') (may : MemPlace → Prop) : W.keptBut W' may := by
  refine ⟨hb.os, hb.output, fun i hi => ?_⟩
  rw [hb.block i hi]
  cases W.heap[i]? with
  | none => rfl
  | some o => cases o <;> simp

/-- WHAT THE CONDITION GIVES THE WALK: the table's cells. -/
theorem lens_of_laid {W : World} (h : laidMetH Tryz.prog Rows.fnConfigAloneRow.laid W) : ∀ o u, V.lens[o]? = some u → W.cell? ⟨5, o, none⟩ = some u := by
  have h' : laidMet Tryz.prog [("io.EOF", Rows.laid_io_EOF), ("io.ErrUnexpectedEOF", Rows.laid_io_ErrUnexpectedEOF), ("loop.example/pub-g03445/pub/image/tiff.lengths", Rows.laid_loop_example_pub_g03445_pub_image_tiff_lengths)] W ∧ handlesMet Tryz.prog [("errors.errorType", Rows.laid_errors_errorType)] W := h
  obtain ⟨⟨ps, ⟨g0, t0, cs0, f0, p0, q0, _, _, _, _, ⟨g1, t1, cs1, f1, p1, q1, _, _, _, _, ⟨g2, t2, cs2, f2, p2, q2, hg2, ht2, hv2, hd2, _, _⟩, _⟩, _⟩, _⟩, _⟩ := h'
  obtain rfl := Option.some.inj (gLens.symm.trans hg2)
  obtain rfl := Option.some.inj (tLens.symm.trans ht2)
  obtain ⟨xs, m1, rfl, hx1, hlen, hn6, hel⟩ := DataW.trod_array Tryz.underlying155 hd2
  have c22 : Tryz.prog.cellsOf 22 = 1 := by kernel_rfl
  simp only [Prod.mk.injEq] at hx1
  have hx2 : [DataW.lit (Lit.int .u32 0), .lit (.int .u32 1), .lit (.int .u32 1), .lit (.int .u32 2), .lit (.int .u32 4), .lit (.int .u32 8)] = xs.map (·.1) := DataW.agg.inj hx1.1
  have key : ∀ k v, k < 6 → (xs.map (·.1))[k]? = some (.lit (.int .u32 v)) → W.cell? ⟨5, k, none⟩ = some (.int .u32 v) := by
    intro k v hk hxk
    have hk2 := hel k hk
    rw [List.getElem?_map] at hxk
    cases hxs : xs[k]? with
    | none => rw [hxs] at hxk; cases hxk
    | some y =>
      rw [hxs] at hxk hk2
      obtain ⟨n, e1, e2, _⟩ := DataW.trod_int Tryz.underlying22 hk2
      have hn : n = v := by
        rw [e2] at hxk
        simpa using hxk
      subst hn
      rw [c22, Nat.mul_one] at e1
      have hcell : cs2[k]? = some (.int .u32 n) := by
        have := congrArg (fun l => l[0]?) e1
        simpa using this
      rw [World.var?_cell hg2 hv2 k]
      exact hcell
  intro o u hu
  have ho : o < 6 := (List.getElem?_eq_some_iff.1 hu).1
  rcases (show o = 0 ∨ o = 1 ∨ o = 2 ∨ o = 3 ∨ o = 4 ∨ o = 5 by omega) with rfl | rfl | rfl | rfl | rfl | rfl <;>
    (simp only [V.lens, List.getElem?_cons_zero, List.getElem?_cons_succ, Option.some.injEq] at hu; subst hu; exact key _ _ (by omega) (by rw [← hx2]; rfl))

/-- The door's own heap meets the condition. -/
theorem door_met (os : Os) (args : Array Value) : laidMetH Tryz.prog Rows.fnConfigAloneRow.laid ((World.doorLaid Tryz.prog 4000 os).forCall (fun _ _ => 0) ⟨#[], args, []⟩).memory :=
  laidMetH_of_parts3 (fuel := 8) (laidMet_of_run' 8 (by kernel_rfl) (by kernel_rfl)) (by kernel_rfl) (by kernel_rfl)
theorem cells5 : Tryz.prog.cellsOf 5 = 1 := by kernel_rfl
theorem wf_u8 {n : Int} (h : (Lit.int .u8 n).wf = true) : 0 ≤ n ∧ n ≤ 255 := by
  simp [Lit.wf, IntKind.min, IntKind.max, IntKind.signed, IntKind.bits] at h; omega
theorem wf_u32 {n : Int} (h : (Lit.int .u32 n).wf = true) : 0 ≤ n ∧ n ≤ 4294967295 := by
  simp [Lit.wf, IntKind.min, IntKind.max, IntKind.signed, IntKind.bits] at h; omega

set_option maxRecDepth 100000 in
theorem fnConfigAlone_lifted (os : Os) (started : os.Started) (H : Type) (enc : TypeId × Value → H) :
    ReturnsInHanded {} Tryz.checked os 3 .any (fun w args => (Rows.fnConfigAloneSpec.pre enc Tryz.prog Tryz.f3 [] false w args ∧ laidMetH Tryz.prog Rows.fnConfigAloneRow.laid w) ∧ sizedMet enc Tryz.prog Tryz.f3 (OpenSpec.ofChange Rows.fnConfigAloneSpec) false w args)
      (Rows.fnConfigAloneSpec.post enc Tryz.prog Tryz.f3 false true false false) := by
  refine returnsInHanded_of_change_and (C := Tryz.checked) (X := fun w _ => laidMetH Tryz.prog Rows.fnConfigAloneRow.laid w) (fun _ _ _ hh h => h.of_heap hh) Tryz.own started (by kernel_rfl) Tryz.func3
    (ChangeSpec.witness_shaped (enc := enc) (C := Tryz.checked) (os := os) (X := fun w _ => laidMetH Tryz.prog Rows.fnConfigAloneRow.laid w) false (World.doorLaid Tryz.prog 4000 os) #[.int .u32 0, .int .u8 0, .int .u8 0, .slice none 0 0, .int .u32 0, .int .u8 0] 8 rfl (World.shaped_of_RefB (by kernel_rfl) (by kernel_rfl)) (by kernel_rfl) (by kernel_rfl) (by kernel_rfl) (door_met os _)) ?_
  intro W base args ds gs before hval0 hW _ _ hL _
  have hval : ∀ (j : Nat) t v, Tryz.f3.params[j]? = some t → args[j]? = some v → Value.okWide Tryz.prog W .any base t v := hval0
  have hW' := hW
  have hlt := fun p hp => hW.lt p hp
  obtain ⟨p, q, hA0, hV, rfl, hfz, hnd⟩ := hW
  have hA : DataW.TrodAll enc Tryz.prog W 0 (fun _ => true) true Tryz.f3.params.toList args.toList ds p := hA0
  rw [Tryz.params3] at hA hval
  have hA1 : DataW.TrodAll enc Tryz.prog W 0 (fun _ => true) true [22, 5, 5, 23, 22, 5] args.toList ds p := hA
  obtain ⟨v0, vs0, d0, ds0, p0, q0, e0, rfl, rfl, h0, hr0⟩ := trodAll_cons hA1
  obtain ⟨v1, vs1, d1, ds1, p1, q1, rfl, rfl, rfl, h1, hr1⟩ := trodAll_cons hr0
  obtain ⟨v2, vs2, d2, ds2, p2, q2, rfl, rfl, rfl, h2, hr2⟩ := trodAll_cons hr1
  obtain ⟨v3, vs3, d3, ds3, p3, q3, rfl, rfl, rfl, h3, hr3⟩ := trodAll_cons hr2
  obtain ⟨v4, vs4, d4, ds4, p4, q4, rfl, rfl, rfl, h4, hr4⟩ := trodAll_cons hr3
  obtain ⟨v5, vs5, d5, ds5, p5, q5, rfl, rfl, rfl, h5, hr5⟩ := trodAll_cons hr4
  obtain ⟨rfl, rfl, rfl⟩ := trodAll_nil hr5
  obtain rfl : args = #[v0, v1, v2, v3, v4, v5] := by rw [← Array.toList_inj, e0]
  obtain ⟨g, t, cs, fuel, dg, pg, rfl, hg, htg, hvar, hdg, rfl⟩ := trodVars_one hV
  obtain ⟨f, rfl, rfl, rfl, wf0⟩ := open_int Tryz.underlying22 (hval 0 22 v0 rfl rfl) h0
  obtain ⟨w0, rfl, rfl, rfl, wf1⟩ := open_int Tryz.underlying5 (hval 1 5 v1 rfl rfl) h1
  obtain ⟨h0', rfl, rfl, rfl, wf2⟩ := open_int Tryz.underlying5 (hval 2 5 v2 rfl rfl) h2
  obtain ⟨at_, rfl, rfl, rfl, wf4⟩ := open_int Tryz.underlying22 (hval 4 22 v4 rfl rfl) h4
  obtain ⟨by_, rfl, rfl, rfl, wf5⟩ := open_int Tryz.underlying5 (hval 5 5 v5 rfl rfl) h5
  obtain ⟨a0, len, cap, rfl⟩ := okWide_slice Tryz.underlying23 (hval 3 23 v3 rfl rfl)
  have hlens := lens_of_laid hL
  have hrd : ∃ l : List Int, l.length = len ∧ (∀ x ∈ l, 0 ≤ x ∧ x ≤ 255) ∧ V.Reads W (.slice a0 len cap) 1 len (V.by8 l) := by
    obtain ⟨fuel3, hf3⟩ := h3
    rcases open_ints Tryz.underlying23 Tryz.underlying5 cells5 hf3 with ⟨hcs, _⟩ | ⟨a, len', cap', zs, hcs, _, hl, hm, hz, _, hcell, hwz⟩
    · simp [Value.cells] at hcs
      obtain ⟨rfl, rfl, rfl⟩ := hcs
      exact ⟨[], rfl, fun x hx => (by cases hx), V.reads_nil W⟩
    · simp [Value.cells] at hcs
      obtain ⟨rfl, rfl, rfl⟩ := hcs
      simp only [if_true] at hz
      have hcm : cap ≤ 9223372036854775807 := by simpa [maxLen] using hm
      refine ⟨zs.take len, by rw [List.length_take]; omega, fun x hx => wf_u8 (hwz x (List.mem_of_mem_take hx)), ⟨by rw [V.by8_length, List.length_take]; omega, by omega, some a, cap, rfl, hl, hcm, fun _ => ⟨a, rfl, fun j u hj => ?_⟩⟩⟩
      have hj2 : j < (zs.take len).length := by
        have := (List.getElem?_eq_some_iff.1 hj).1
        rwa [V.by8_length] at this
      rw [V.by8_get hj2] at hj
      injection hj with hj
      subst hj
      have hj3 : j < len := by rw [List.length_take] at hj2; omega
      have e1 : (zs.take len).getD j 0 = zs.getD j 0 := by
        rw [List.getD_eq_getElem?_getD, List.getD_eq_getElem?_getD, List.getElem?_take_of_lt hj3]
      rw [e1]
      exact hcell j (by omega)
  obtain ⟨l, hl, hby, hread⟩ := hrd
  have hwalk := V.law_spec (F := [sameAs W]) f w0 h0' at_ by_ (wf_u32 wf0) (wf_u8 wf1) (wf_u8 wf2) (wf_u32 wf4) a0 len cap l hl hby
    (fun w h => hread.chg (fun a u hc => sameAs_cell h hc)) (fun w h o u hu => sameAs_cell h (hlens o u hu)) W (sameAs_self W)
  refine hwalk.mono fun e W' hpost => ?_
  obtain ⟨v, T, rfl, ⟨rfl, X, rfl⟩, hsat⟩ := hpost
  have hb := sameAs_below (V.sat_app hsat).1
  have hres : DataW.TrodAll enc Tryz.prog W' W.heap.size (fun _ => false) false [4] [.bool true] [.lit (.bool true)] [] := trodAll_mk1 (shut_bool Tryz.underlying4 true)
  have hargs := trodAll_below Tryz.laidOut hb (by kernel_rfl) hA0 (fun x hx => hlt x (List.mem_append_left _ hx))
  have hvars := Below.trodVars Tryz.laidOut hb (by kernel_rfl) hV
  exact ⟨_, rfl, _, _, _, [], _, _, hW', hres, hargs, hvars, keptBut_below hb _, fun h => by cases h⟩

theorem fnConfigAlone_holds : Rows.FnConfigAloneSaid :=
  OpenClaim.holds_of_wide 3 Tryz.f3 rfl rfl rfl rfl rfl rfl rfl ⟨rfl, rfl, rfl, rfl, rfl⟩ rfl rfl rfl rfl rfl (by kernel_rfl) Tryz.func3 (by kernel_rfl)
    (of_decide_eq_true (by kernel_rfl)) (by unfold Func.isWrapper; rw [if_neg (of_decide_eq_false (by kernel_rfl))]; exact ⟨rfl, rfl⟩)
    (fun os started H enc _ => fnConfigAlone_lifted os started H enc)
#print axioms fnConfigAlone_holds
end Go.Proofs.YtaflcjoagfnhfaaGreatDoor
