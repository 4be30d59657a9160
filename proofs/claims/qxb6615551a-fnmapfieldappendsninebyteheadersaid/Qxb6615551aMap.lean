/- mapField; ZZi32, ZZmapField. -/
import Derived.Test.Qxb6615551aFld
namespace Go.Proofs.Qxb6615551a
open Go.RowKit

/-- What mapField lays behind the buffer. -/
def hdr (id key val n : Int) : List Int := 13 :: (be16 (id % 65536) ++ key :: val :: be32 (n % 4294967296))

theorem each_any (i : Int) (w : World) : Calls Try.prog 16 #[.int .i64 i] w fun e w' => e = .returned (.tuple #[]) ∧ w' = w := by
  go_enter Try.func16, Try.ntmps16
  go_wp2_with fail
  go_end0
  exact ⟨rfl, rfl⟩

set_option maxRecDepth 20000 in
set_option maxHeartbeats 2000000 in
theorem mapField_any {B eb : Nat} {v : Value} {ns : List Int} (id key val n : Int) (w : World) (h : EncI B w eb v ns) (hn : ns.length ≤ 1800000) (hB : B ≤ w.heap.size) (hn1 : n ≤ 65536) :
    Calls Try.prog 15 #[.pointer (some ⟨eb, 0, none⟩), .int .i16 id, .int .u8 key, .int .u8 val, .int .i64 n, .func (.func 16) #[] #[]] w fun e w' =>
      e = .returned (.tuple #[]) ∧ ∃ v', EncI B w' eb v' (ns ++ hdr id key val n) ∧ Fx w w' (fun k => k = eb ∨ some k = v.ownBlock) ∧ Loc w v v' := by
  have HF := hide (field_any 13 id w h (by omega) hB)
  obtain ⟨i0, hi, hz0, hz1, hz2⟩ := info_parts Try.info5
  have hm : IntKind.i32.wrap n % 4294967296 = n % 4294967296 := by rw [IntKind.wrap_i32]; omega
  generalize hn32 : IntKind.i32.wrap n = n32 at hm
  clear h
  go_enter Try.func15, Try.ntmps15
  go_wp2_with fail
  refine HF.out.mono ?_
  rintro e w1 ⟨rfl, v1, he1, hf1, hl1⟩
  have c1 := he1.at
  obtain ⟨p, cap0, rfl⟩ := own_shape he1.row
  have H1 := hide (And.intro he1 (And.intro hf1 hl1))
  have HB1 : Hid (B ≤ w1.heap.size) := Nat.le_trans hB hf1.size
  have hl : (ns ++ 13 :: be16 (id % 65536)).length ≤ 1900000 := by simp [be16]; omega
  clear he1 hf1 hl1 HF
  generalize hns1 : ns ++ 13 :: be16 (id % 65536) = ns1 at H1 hl c1 ⊢
  have HNS1 := hide hns1
  clear hns1
  have HO : Hid ((w1.alloc (.cells #[.int .u8 key, .int .u8 val] 5)).ownsRow B 5 1 (.slice p ns1.length cap0) ns1.length (bc ns1)) := H1.out.1.row.alloc _
  go_wp2_with (at_builtin; refine wpList_append_lies _ rfl _ _ 22 rfl B 5 i0 (.int .u8 0) 1 1 Try.underlying22 hi hz0 hz1 hz2 rfl (by decide) _ _ _ rfl HO.out ⟨w1.heap.size, 0, none⟩ 2 2 (bc [key, val]) rfl rfl ?c1 ?c2 (by decide) ?c3 ?c4 ?c5 (w1.heap.size + 1) ?c6 ?_)
  case c1 => exact World.news_of_block (B := w1.heap.size) (by have := heap_alloc_new w1 (.cells #[.int .u8 key, .int .u8 val] 5); simpa using this)
  case c2 => intro u hu; simp [bc] at hu; rcases hu with rfl | rfl <;> rfl
  case c3 => unfold maxLen; omega
  case c4 => have := HB1.out; omega
  case c5 => have := HB1.out; simp; omega
  case c6 => simp
  intro g cap w2 hown hgrow hloc _
  have HA : Hid (Aft B w1 w2 eb (.slice p ns1.length cap0) (.slice (some ⟨g, 0, none⟩) (ns1.length + 2) cap) (ns1 ++ [key, val])) := by
    rw [← bc_append] at hown
    refine H1.out.1.aft hown (by simp) (((Fx.refl w1 _).alloc _).trans (Fx.of_grown hgrow) (fun _ _ t => t)) ?_
    rcases hloc with h | h
    · exact .inl h.symm
    · exact .inr ⟨g, rfl, by omega⟩
  have f2 := HA.out.fz
  have f3 := HA.out.cell
  clear hown hgrow hloc HO c1
  go_wp2_with fail
  obtain ⟨E2, F2⟩ := H1.out.1.store HA.out.fx HA.out.row HA.out.loc
  have H2 := hide (And.intro E2 (And.intro (H1.out.2.1.step H1.out.2.2 F2) (H1.out.2.2.trans HA.out.loc H1.out.2.1.size)))
  have HB2 : Hid (B ≤ (w2.setCell ⟨eb, 0, none⟩ (.slice (some ⟨g, 0, none⟩) (ns1.length + 2) cap)).heap.size) := Nat.le_trans HB1.out F2.size
  clear E2 F2 HA f2 f3 H1 HB1
  generalize w2.setCell ⟨eb, 0, none⟩ (.slice (some ⟨g, 0, none⟩) (ns1.length + 2) cap) = X2 at H2 HB2 ⊢
  refine (i32_any n32 X2 H2.out.1 (by simp; omega) HB2.out).mono ?_
  rintro e X3 ⟨rfl, v3, E3, F3, L3⟩
  rw [hm] at E3
  have hns3 : ns1 ++ [key, val] ++ be32 (n % 4294967296) = ns ++ hdr id key val n := by rw [← HNS1.out]; simp [hdr]
  rw [hns3] at E3
  have H3 : Hid (∃ v', EncI B X3 eb v' (ns ++ hdr id key val n) ∧ Fx w X3 (fun k => k = eb ∨ some k = v.ownBlock) ∧ Loc w v v') := ⟨v3, E3, H2.out.2.1.step H2.out.2.2 F3, H2.out.2.2.trans L3 H2.out.2.1.size⟩
  clear E3 F3 L3 hns3 H2 HB2 HNS1 hm
  go_wp2_with fail
  go_loop [32] (fun i => ∃ k : Nat, k ≤ 65536 ∧ i = .int .i64 k) (fun i => (n - intOf i).toNat)
  case atStart => exact ⟨0, Nat.zero_le _, rfl⟩
  case round =>
    obtain ⟨k, hk, rfl⟩ := hrel
    by_cases hlt : (k : Int) < n
    · go_wp2_with fail
      refine (each_any _ _).mono ?_
      rintro e _ ⟨rfl, rfl⟩
      go_wp2_with fail
      go_round
      case rel => exact ⟨k + 1, by omega, by go_num⟩
      case measure => simp [intOf]; omega
    · go_wp2_with fail
      go_end0
      exact ⟨rfl, H3.out⟩
end Go.Proofs.Qxb6615551a
