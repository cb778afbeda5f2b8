/- The walk of nodesOf. -/
import Derived.Test.YtbkoifdnlaihfaaGreatProg
import Derived.Test.YtbkoifdnlaihfaaGreatMem
namespace Go.Proofs.YtbkoifdnlaihfaaGreat
open Go.RowKit

theorem node_info : (Tryz.prog.info? 100).map (fun i => (i.zero, i.size, i.bytes)) = some (some .nilIface, 1, 16) := by kernel_rfl

def nodeV (z : Int) : Value := .iface 133 (.int .i64 z)

theorem own_shape' {w : World} {base : Nat} {e : TypeId} {size : Nat} {v : Value} {n : Nat} {xs : List Value} (h : w.ownsRow base e size v n xs) : ∃ a c, v = .slice a n c := by
  rcases h.2 with ⟨rfl, rfl⟩ | ⟨g, cap, cur, rfl, _⟩
  · exact ⟨none, 0, rfl⟩
  · exact ⟨_, _, rfl⟩

def NodesPost (n : Nat) (ns : List Int) (w : World) (e : Ending) (w' : World) : Prop :=
  ∃ v, e = .returned v ∧ w'.ownsRow w.heap.size 100 1 v n (ns.map nodeV) ∧ Below w.heap.size w w'

set_option maxHeartbeats 1000000 in
theorem nodesOf_calls (a : Option Addr) (n c : Nat) (ns : List Int) (w : World) (hr : RdI w a n ns) (hn : n ≤ 1000000) :
    Calls Tryz.prog 86 #[.slice a n c] w (NodesPost n ns w) := by
  have HR := Lib.hid hr; clear hr
  obtain ⟨i0, hi0, hz0, hz1, hz2⟩ := info_parts node_info
  have HI := Lib.hid (And.intro hi0 (And.intro hz0 (And.intro hz1 hz2)))
  clear hi0 hz0 hz1 hz2
  go_enter Tryz.func86, Tryz.ntmps86
  go_wp2_with fail
  go_loopw [3, 8] (fun v i wr => ∃ k : Nat, k ≤ n ∧ i = .int .i64 k ∧ wr.ownsRow w.heap.size 100 1 v k ((ns.take k).map nodeV) ∧ Below w.heap.size w wr) (fun _ i _ => n - (intOf i).toNat)
  case atStart => exact ⟨0, by omega, rfl, World.ownsRow_nil _ _ _ _, Below.refl _ _⟩
  case round =>
    rename_i v i
    obtain ⟨k, hk, rfl, ho, hb⟩ := hrel
    obtain ⟨a1, c1, rfl⟩ := own_shape' ho
    have HO := Lib.hid ho; have HB := Lib.hid hb
    have hszr := hb.size
    clear ho
    by_cases hlt : k < n
    · obtain ⟨b, off, rfl, hbb, hc⟩ := HR.out.at_ (by omega)
      obtain ⟨z, HZ, hcz⟩ := hc k hlt
      have hck := (hb.cell (p := ⟨b, off + k, none⟩) hbb).trans hcz
      have hbr : b < wr.heap.size := by omega
      clear hc hcz hb
      obtain ⟨hi0, hz0, hz1, hz2⟩ := HI.out
      have hsm : (k + 1) * 16 ≤ 140737488355328 := by omega
      go_wp2_with (at_builtin; refine wpList_append_own _ rfl _ _ 104 rfl w.heap.size 100 i0 .nilIface 1 16 Tryz.underlying104 hi0 hz0 hz1 hz2 rfl (by decide) _ _ _ rfl (HO.out.alloc _) ⟨wr.heap.size, 0, none⟩ 1 1 [nodeV z] rfl rfl ?c1 ?c2 ?c3 ?c4 ?c5 ?_)
      case c1 => intro j u hj; match j, hj with | 0, hj => simp at hj; subst hj; simp [Addr.add, nodeV]
      case c2 => intro u hu; simp at hu; subst hu; rfl
      case c3 => unfold maxLen; omega
      case c4 => exact hsm
      case c5 => simp; omega
      intro v' w' hown' hgrow _
      obtain ⟨a', c', rfl⟩ := own_shape' hown'
      have HO' := Lib.hid hown'
      have HB' : Hid (Below w.heap.size w w') := (HB.out.alloc (by omega) _).grown hgrow (by simp; omega) (fun j hj => (HO.out.lt j hj).1)
      clear hown' hgrow
      go_wp2
      go_roundw
      case rel =>
        refine ⟨k + 1, by omega, by go_num, ?_, HB'.out⟩
        have e2 : (ns.take (k + 1)).map nodeV = List.map nodeV (ns.take k) ++ [nodeV z] := by
          have hkl : k < ns.length := by rw [HR.out.len]; exact hlt
          rw [List.take_succ_eq_append_getElem hkl, List.map_append]
          have := HZ.out; simp [List.getD, hkl] at this; simp [this]
        rw [e2]; have := HO'.out; simpa using this
      case measure => simp [intOf]; omega
    · go_wp2
      go_ret
      obtain rfl : k = n := by omega
      refine ⟨_, rfl, ?_, HB.out⟩
      have := HO.out
      rwa [show ns.take k = ns by rw [← HR.out.len, List.take_length]] at this

end Go.Proofs.YtbkoifdnlaihfaaGreat
