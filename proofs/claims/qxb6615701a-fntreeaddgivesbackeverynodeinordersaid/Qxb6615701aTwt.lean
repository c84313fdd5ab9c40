/-
  writable (41), of a tree.
-/
import Derived.Test.Qxb6615701aTwr
namespace Go.Proofs.Qxb6615701a
open Go Go.RowKit
set_option linter.unusedVariables false

def PS.room (S : PS) (cs : Nat) : Nat := if S.st then cs - S.cur.length else 0
def PS.avail (S : PS) (cs : Nat) : PS := if S.room cs < 31 then S.next else S

abbrev chV (g n cs : Nat) : Value := .slice (some ⟨g, 0, none⟩) n cs

/-- The tree with the chunk gl being written. -/
def Mem7 (w : World) (gt cs : Nat) (v2 v3 : Value) (S : PS) (gl : Nat) (fp : List Nat) : Prop :=
  ∃ v5, Tr w gt cs v2 v3 v5 (.int .i64 S.used) (chV gl S.cur.length cs) (.int .i64 S.la) (.int .i64 S.ld) ∧ Row w S cs v5 (chV gl S.cur.length cs) fp ∧ gt ∉ fp

theorem Row.mid {w : World} {S : PS} {cs : Nat} {v5 v7 : Value} {fp : List Nat} (h : Row w S cs v5 v7 fp) : ∃ fa fl fc, v7 = .slice fa fl fc ∧ fl ≤ fc ∧ (fc = 0 ∨ fc = cs) ∧ S.room cs = fc - fl ∧ (31 ≤ fc - fl → ∃ gl, v7 = chV gl S.cur.length cs) := by
  rcases h with ⟨h0, h1, h2, h3, rfl, h5⟩ | ⟨h0, gc, cap, gl, arr, fs, h1, rfl, h3, h4, h5, h6, h7, h8, h9, h10, h11, h12⟩
  · exact ⟨none, 0, 0, rfl, Nat.le_refl _, .inl rfl, by simp [PS.room, h0], fun h => by omega⟩
  · exact ⟨_, _, _, rfl, h10.len, .inr rfl, by simp [PS.room, h0], fun _ => ⟨gl, rfl⟩⟩

set_option maxHeartbeats 1000000 in
theorem wr_next (gt cs : Nat) (hcs : cs ≤ 65536) (v2 v3 v5 v10 v11 : Value) (S : PS) (hS : S.fin.length ≤ 1000000) (w : World) (fp : List Nat) (fa : Option Addr) (fl fc : Nat) (hlf : fl ≤ fc) (hfc : fc ≤ 65536) (hlt : fc - fl < 31)
    (hw : Tr w gt cs v2 v3 v5 (.int .i64 S.used) (.slice fa fl fc) v10 v11) (hr : Row w S cs v5 (.slice fa fl fc) fp) (hg : gt ∉ fp) :
    Calls Try.prog 41 #[.pointer (some ⟨gt, 0, none⟩)] w fun e w' => ∃ v5' fp' gl, e = .returned (slV gl cs) ∧ Tr w' gt cs v2 v3 v5' (.int .i64 S.next.used) (slV gl cs) v10 v11 ∧ Row w' S.next cs v5' (slV gl cs) fp' ∧ gt ∉ fp' ∧ Step w w' gt fp fp' := by
  obtain ⟨c2, c3, c5, c6, c7, c8, c10, c11⟩ := hw.cells
  have hd : ((fc : Int) - (fl : Int) < 31) := by omega
  have HW := hide hw
  have HR := hide hr
  clear hw hr c2 c3 c5 c6 c8 c10 c11
  go_enter Try.func41, Try.ntmps41
  go_wp2_with fail
  go_quiet (fail)
  go_wp2_with fail
  refine (next_row gt cs hcs v2 v3 v5 _ v10 v11 S hS (w.drewN nq) fp HW.out (HR.out.touch ((Touch.refl w (fun _ => False)).drew nq) (fun _ _ h => h)) hg).mono ?_
  rintro e w1 ⟨v5', fp', gl, rfl, t1, r1, g1, s1⟩
  have T1 := hide t1
  have R1 := hide r1
  have S1 := hide s1
  obtain ⟨c2, c3, c5, c6, c7, c8, c10, c11⟩ := t1.cells
  have hf := t1.frozen
  clear t1 r1 s1
  go_wp2
  go_ret
  have t2 : Touch w1 (w1.setCell ⟨gt, 7, none⟩ (slV gl cs)) (fun k => k = gt) := (Touch.refl _ _).set gt 7 _ (fun _ => rfl)
  refine ⟨v5', fp', gl, rfl, T1.out.set7 _, R1.out.touch t2 (fun k hk e => g1 (e ▸ hk)), g1, ?_, S1.out.fresh⟩
  exact (((Touch.refl w _).drew nq).trans S1.out.touch (fun _ _ h => h)).trans t2 (fun i _ e => .inl e)

set_option maxHeartbeats 1000000 in
theorem wr_stay (gt cs : Nat) (hcs : cs ≤ 65536) (v2 v3 v5 v6 v10 v11 : Value) (w : World) (gl fl : Nat) (hlf : fl ≤ cs) (hlt : 31 ≤ cs - fl)
    (hw : Tr w gt cs v2 v3 v5 v6 (chV gl fl cs) v10 v11) :
    Calls Try.prog 41 #[.pointer (some ⟨gt, 0, none⟩)] w fun e w' => e = .returned (chV gl fl cs) ∧ ∃ nq, w' = w.drewN nq := by
  obtain ⟨c2, c3, c5, c6, c7, c8, c10, c11⟩ := hw.cells
  have hd : ¬ ((cs : Int) - (fl : Int) < 31) := by omega
  clear hw c2 c3 c5 c6 c8 c10 c11
  go_enter Try.func41, Try.ntmps41
  go_wp2_with fail
  go_quiet (fail)
  go_wp2
  go_ret
  exact ⟨rfl, _, rfl⟩

theorem writable (gt cs : Nat) (h31 : 31 ≤ cs) (hcs : cs ≤ 65536) (v2 v3 : Value) (S : PS) (hS : S.fin.length ≤ 1000000) (w : World) (fp : List Nat) (hm : Mem w gt cs v2 v3 S fp) :
    Calls Try.prog 41 #[.pointer (some ⟨gt, 0, none⟩)] w fun e w' => ∃ gl fp', e = .returned (chV gl (S.avail cs).cur.length cs) ∧ Mem7 w' gt cs v2 v3 (S.avail cs) gl fp' ∧ Step w w' gt fp fp' ∧ 31 ≤ cs - (S.avail cs).cur.length := by
  obtain ⟨v5, v7, h1, h2, h3⟩ := hm
  obtain ⟨fa, fl, fc, rfl, k1, k2, k3, k4⟩ := h2.mid
  by_cases hlt : fc - fl < 31
  · have e : S.avail cs = S.next := by rw [PS.avail, if_pos (by omega)]
    rw [e]
    refine (wr_next gt cs hcs v2 v3 v5 _ _ S hS w fp fa fl fc k1 (by omega) hlt h1 h2 h3).mono ?_
    rintro e w1 ⟨v5', fp', gl, rfl, t1, r1, g1, s1⟩
    exact ⟨gl, fp', rfl, ⟨v5', t1, r1, g1⟩, s1, by simpa [PS.next] using h31⟩
  · have e : S.avail cs = S := by rw [PS.avail, if_neg (by omega)]
    rw [e]
    obtain ⟨gl, hgl⟩ := k4 (by omega)
    have hfc : fc = cs := by omega
    subst hfc
    simp only [chV, Value.slice.injEq] at hgl
    obtain ⟨rfl, rfl, _⟩ := hgl
    refine (wr_stay gt fc hcs v2 v3 v5 _ _ _ w gl _ k1 (by omega) h1).mono ?_
    rintro e w1 ⟨rfl, nq, rfl⟩
    have td : ∀ F : Nat → Prop, Touch w (w.drewN nq) F := fun F => (Touch.refl w F).drew nq
    exact ⟨gl, fp, rfl, ⟨v5, h1, h2.touch (td (fun _ => False)) (fun _ _ h => h), h3⟩, ⟨td _, fun _ h => .inl h⟩, by omega⟩
end Go.Proofs.Qxb6615701a
