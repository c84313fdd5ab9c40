/-
  encodeLong (37): the tree has one node more.
-/
import Derived.Test.Qxb6615701aTlongn
namespace Go.Proofs.Qxb6615701a
open Go Go.RowKit
set_option linter.unusedVariables false

theorem long_mid (gt cs : Nat) (h31 : 31 ≤ cs) (hcs : cs ≤ 65536) (v2 v3 : Value) (S : PS) (hS : S.fin.length ≤ 1000000) (w : World) (fp : List Nat) (hm : Mem w gt cs v2 v3 S fp) (gb o : Nat) (n : Nd) (hn : NodeAt w gb o n) (hb : gb ≠ gt) (hbf : gb ∉ fp) :
    Calls Try.prog 41 #[.pointer (some ⟨gt, 0, none⟩)] w fun e w1 => ∃ gl v5 v6, e = .returned (chV gl (S.avail cs).cur.length cs) ∧ Mid w1 gt gl gb o cs v2 v3 v5 v6 (S.avail cs).cur S.la S.ld n ∧
      (∃ fp1, v6 = .int .i64 (S.avail cs).used ∧ Row w1 (S.avail cs) cs v5 (chV gl (S.avail cs).cur.length cs) fp1 ∧ gt ∉ fp1 ∧ Step w w1 gt fp fp1) := by
  have hgb := hn.lt
  refine (writable gt cs h31 hcs v2 v3 S hS w fp hm).mono ?_
  rintro e w1 ⟨gl, fp1, rfl, ⟨v5, t1, r1, g1⟩, s1, hrm⟩
  have hbf1 : gb ∉ fp1 := by
    intro h
    rcases s1.fresh gb h with h | h
    · exact hbf h
    · omega
  have hgl := r1.writing
  rw [avail_la, avail_ld] at t1
  refine ⟨gl, v5, _, rfl, ⟨t1, hgl.2.1, hn.touch s1.touch ?_, fun e => g1 (e ▸ hgl.1), fun e => hbf1 (e ▸ hgl.1), hb, by omega⟩, fp1, rfl, r1, g1, s1⟩
  rintro (h | h)
  · exact hb h
  · exact hbf h

theorem long_ok (gt cs : Nat) (h31 : 31 ≤ cs) (hcs : cs ≤ 65536) (v2 v3 : Value) (S : PS) (hS : S.fin.length ≤ 1000000) (w : World) (fp : List Nat) (hm : Mem w gt cs v2 v3 S fp) (gb o : Nat) (n : Nd) (hk : n.k ≤ 4) (he : n.e ≠ -1) (hn : NodeAt w gb o n) (hb : gb ≠ gt) (hbf : gb ∉ fp) :
    Calls Try.prog 37 #[.pointer (some ⟨gt, 0, none⟩), .pointer (some ⟨gb, o, none⟩)] w fun e w' => e = .returned (.tuple #[]) ∧ ∃ fp', Mem w' gt cs v2 v3 (S.long cs n) fp' ∧ Step w w' gt fp fp' := by
  have hmid := long_mid gt cs h31 hcs v2 v3 S hS w fp hm gb o n hn hb hbf
  have hne : (n.e == -1) = false := by simpa using he
  have fin : ∀ (w' : World) (gl : Nat) (v5 v6 : Value) (w1 : World) (ld' : Int) (bs : List UInt8), (∃ fp1, v6 = .int .i64 (S.avail cs).used ∧ Row w1 (S.avail cs) cs v5 (chV gl (S.avail cs).cur.length cs) fp1 ∧ gt ∉ fp1 ∧ Step w w1 gt fp fp1) → Touch w1 w' (fun k => k = gt ∨ k = gl) →
      Tr w' gt cs v2 v3 v5 v6 (chV gl ((S.avail cs).cur ++ bs).length cs) (.int .i64 n.a) (.int .i64 ld') → Ch w' gl cs ((S.avail cs).cur ++ bs) → S.long cs n = { (S.avail cs) with cur := (S.avail cs).cur ++ bs, la := n.a, ld := ld' } → ∃ fp', Mem w' gt cs v2 v3 (S.long cs n) fp' ∧ Step w w' gt fp fp' := by
    rintro w' gl v5 v6 w1 ld' bs ⟨fp1, rfl, r1, g1, s1⟩ ht tr hc e
    rw [e]
    have hgl := r1.writing.1
    refine ⟨fp1, ⟨v5, _, tr, r1.grow ht (fun k hk hne h => ?_) hc n.a ld', g1⟩, s1.trans ⟨ht.mono (fun i _ h => h.elim .inl (fun (h : i = gl) => .inr (by rw [h]; exact hgl))), fun _ h => .inl h⟩⟩
    rcases h with h | h
    · exact g1 (h ▸ hk)
    · exact hne h
  obtain ⟨k, dec, na, ns, ne⟩ := n
  cases dec with
  | true =>
    refine (long_dec_raw gt gb o cs hcs v2 v3 (S.avail cs).cur S.la S.ld na ns ne k _ _ _ hk hne (w64_walk (na - S.la)) (w64_walk (ne - ns)) (hide (w64_walk' (ns - S.ld))) (hide (w64_lt _)) (hide (w64_lt _)) (hide (w64_lt _)) w _ hmid).mono ?_
    rintro e w' ⟨rfl, gl, v5, v6, w1, hX, g1, ht, tr, hc⟩
    simp only [List.append_assoc] at tr hc
    refine ⟨rfl, fin w' gl v5 v6 w1 ne _ hX ht tr hc ?_⟩
    have e48 : k * 2 + 16 + 32 = k * 2 + 48 := by omega
    simp only [PS.long, longBytes, Nd.hdr, if_true, e48, List.append_assoc]
  | false =>
    refine (long_doc_raw gt gb o cs hcs v2 v3 (S.avail cs).cur S.la S.ld na ns ne k _ _ (k * 2 + 16 + (if na < ns then 1 else 0)) hk hne (hide ?_) (w64_walk (na - S.la)) (w64_walk (ne - ns)) (hide (w64_lt _)) (hide (w64_lt _)) w _ hmid).mono ?_
    · by_cases h : na < ns
      · exact .inl ⟨h, by rw [if_pos h]⟩
      · exact .inr ⟨h, by rw [if_neg h]⟩
    rintro e w' ⟨rfl, gl, v5, v6, w1, hX, g1, ht, tr, hc⟩
    simp only [List.append_assoc] at tr hc
    refine ⟨rfl, fin w' gl v5 v6 w1 S.ld _ hX ht tr hc ?_⟩
    simp [PS.long, longBytes, Nd.hdr]
end Go.Proofs.Qxb6615701a
