import Derived.Test.YbulkdvvqIn
namespace Go.Proofs.Ybulkdvvq
open Go.RowKit
set_option linter.unusedSimpArgs false

set_option maxRecDepth 20000 in
set_option maxHeartbeats 1000000 in
/-- more than 2^20 bytes and strings in all: true at once -/
theorem law_long (da : Option Addr) (dc : Nat) (l : List UInt8) (esc amp so sc : Bool) (pt : ByteArray) (pa : Option Addr) (pc : Nat) (ps : List ByteArray) (bf : ByteArray) (sa : Option Addr) (ssc : Nat) (sp : List ByteArray) (af : ByteArray) (w : World)
    (hp : RdS w pa ps) (hs : RdS w sa sp) (z0 : l.length ≤ 140737488351232) (z1 : pt.size ≤ 140737488351232) (z2 : bf.size ≤ 140737488351232) (z3 : af.size ≤ 140737488351232) (z4 : ps.length ≤ 140737488351232) (z5 : sp.length ≤ 140737488351232) (zp : ∀ s ∈ ps, s.size ≤ 140737488351232) (zs : ∀ s ∈ sp, s.size ≤ 140737488351232)
    (hT : 1048576 < l.length + pt.size + bf.size + af.size + ps.length + sp.length + tot ps + tot sp) :
    Calls Yba.prog 3 #[.slice da l.length dc, .bool esc, .bool amp, .bool so, .bool sc, .string pt, .slice pa ps.length pc, .string bf, .slice sa sp.length ssc, .string af] w fun e w' => e = .returned (.bool true) ∧ Below w.heap.size w w' := by
  have HPS : Hid (RdS w pa ps) := hp
  have HSS : Hid (RdS w sa sp) := hs
  clear hp hs
  by_cases h0 : 1048576 < l.length + pt.size + bf.size + af.size + ps.length + sp.length
  · have h0' : (1048576 : Int) < (l.length : Int) + pt.size + bf.size + af.size + ps.length + sp.length := by omega
    go_enter Yba.func3, Yba.ntmps3
    go_wp2
    go_ret
    exact ⟨rfl, Below.refl _ _⟩
  · have h0' : ¬ (1048576 : Int) < (l.length : Int) + pt.size + bf.size + af.size + ps.length + sp.length := by omega
    go_enter Yba.func3, Yba.ntmps3
    go_wp2_with fail
    go_loopw [21, 22] (fun t i wr => ∃ (k : Nat), k ≤ ps.length ∧ i = .int .i64 k ∧ t = .int .i64 ((l.length + pt.size + bf.size + af.size + ps.length + sp.length + psum ps k : Nat) : Int) ∧ l.length + pt.size + bf.size + af.size + ps.length + sp.length + psum ps k ≤ 1048576 ∧ wr = w) (fun _ i _ => ps.length - (intOf i).toNat)
    case atStart => exact ⟨0, Nat.zero_le _, rfl, by simp [psum], by simp [psum]; omega, rfl⟩
    case round =>
      obtain ⟨k, hk, rfl, rfl, hle, rfl⟩ := hrel
      by_cases hlt : k < ps.length
      · rcases HPS.out with hn | ⟨b, off, rfl, hb, hc⟩
        · rw [hn] at hlt; simp at hlt
        have c1 := hc k hlt
        have e1 := psum_succ ps k hlt
        have e2 := zp ps[k] (List.getElem_mem hlt)
        clear hc
        by_cases hbig : 1048576 < l.length + pt.size + bf.size + af.size + ps.length + sp.length + psum ps k + ps[k].size
        · go_wp2_with fail
          go_ret
          exact ⟨rfl, Below.refl _ _⟩
        · go_wp2_with fail
          go_roundw
          case rel => exact ⟨k + 1, by omega, by go_num, by rw [← e1]; push_cast; go_num, by omega, trivial⟩
          case measure => simp [intOf]; omega
      · obtain rfl : k = ps.length := by omega
        have e3 := psum_all ps
        go_wp2_with fail
        go_loopw [21, 23] (fun t i wx => ∃ (k : Nat), k ≤ sp.length ∧ i = .int .i64 k ∧ t = .int .i64 ((l.length + pt.size + bf.size + af.size + ps.length + sp.length + psum ps ps.length + psum sp k : Nat) : Int) ∧ l.length + pt.size + bf.size + af.size + ps.length + sp.length + psum ps ps.length + psum sp k ≤ 1048576 ∧ wx = wr) (fun _ i _ => sp.length - (intOf i).toNat)
        case atStart => exact ⟨0, Nat.zero_le _, rfl, by simp [psum], by simp [psum] at hle ⊢; omega, rfl⟩
        case round =>
          obtain ⟨k, hk, rfl, rfl, hle, rfl⟩ := hrel
          by_cases hlt : k < sp.length
          · rcases HSS.out with hn | ⟨b, off, rfl, hb, hc⟩
            · rw [hn] at hlt; simp at hlt
            have c1 := hc k hlt
            have e1 := psum_succ sp k hlt
            have e2 := zs sp[k] (List.getElem_mem hlt)
            clear hc
            by_cases hbig : 1048576 < l.length + pt.size + bf.size + af.size + ps.length + sp.length + psum ps ps.length + psum sp k + sp[k].size
            · go_wp2_with fail
              go_ret
              exact ⟨rfl, Below.refl _ _⟩
            · go_wp2_with fail
              go_roundw
              case rel => exact ⟨k + 1, by omega, by go_num, by rw [← e1]; push_cast; go_num, by omega, trivial⟩
              case measure => simp [intOf]; omega
          · obtain rfl : k = sp.length := by omega
            have e4 := psum_all sp
            omega
end Go.Proofs.Ybulkdvvq
