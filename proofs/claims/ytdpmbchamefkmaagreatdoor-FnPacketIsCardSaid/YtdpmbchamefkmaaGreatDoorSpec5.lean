/-
The reference: a chunk, and the checksum of a packet.
-/
import Derived.Test.YtdpmbchamefkmaaGreatDoorSpec4
namespace Go.Proofs.YtdpmbchamefkmaaGreatDoor
open Go.RowKit

/-- Each value reads as the bytes at its place. -/
def RdAll (w : World) : List Value → List (List UInt8) → Prop
  | [], [] => True
  | v :: vs, l :: ls => RdB w v l ∧ RdAll w vs ls
  | _, _ => False

theorem RdAll.length {w : World} : ∀ {vs : List Value} {ls : List (List UInt8)}, RdAll w vs ls → vs.length = ls.length
  | [], [], _ => rfl
  | _ :: vs, _ :: ls, h => by simp [RdAll.length (vs := vs) (ls := ls) h.2]

theorem RdAll.get {w : World} : ∀ {vs : List Value} {ls : List (List UInt8)}, RdAll w vs ls → ∀ (j : Nat) (l : List UInt8), ls[j]? = some l → ∃ u, vs[j]? = some u ∧ RdB w u l
  | [], [], _, j, l, h => by simp at h
  | v :: vs, l :: ls, h, 0, m, hm => by
    simp at hm; subst hm; exact ⟨v, rfl, h.1⟩
  | v :: vs, l :: ls, h, j + 1, m, hm => RdAll.get (vs := vs) (ls := ls) h.2 j m (by simpa using hm)

theorem RdAll.grow {w w' : World} (hg : Grow w w') : ∀ {vs : List Value} {ls : List (List UInt8)}, RdAll w vs ls → RdAll w' vs ls
  | [], [], _ => trivial
  | _ :: _, _ :: _, h => ⟨h.1.grow hg, RdAll.grow hg h.2⟩

/-- A new slice of slices of bytes. -/
theorem rdbs_new (w : World) (k n : Nat) (hk : w.heap.size = k) (vs : List Value) (ls : List (List UInt8)) (T : TypeId) (h : RdAll w vs ls) (hn : ls.length = n) : RdBs (w.alloc (.cells vs.toArray T)) (.slice (some ⟨k, 0, none⟩) n n) ls := by
  subst hk hn
  have hl := h.length
  refine ⟨vs, ?_, fun j l hj => let ⟨u, hu, hr⟩ := h.get j l hj; ⟨u, hu, hr.grow (grow_alloc _ _)⟩⟩
  have := Rd.lit (heap_alloc_new w (.cells vs.toArray T)) 1 ls.length (by simp [hl])
  simpa using this

/-- A chunk: its type, flags, length and value. -/
def chunkB (typ flags : Nat) (value : List UInt8) : List UInt8 := [[UInt8.ofNat typ, UInt8.ofNat flags], be2 (4 + value.length), value].flatten

theorem chunkB_length (typ flags : Nat) (value : List UInt8) : (chunkB typ flags value).length = 4 + value.length := by simp [chunkB, be2]; omega

theorem rd_new2 (w : World) (k : Nat) (hk : w.heap.size = k) (b c : UInt8) : RdB (w.alloc (.cells #[.int .u8 b.toNat, .int .u8 c.toNat] 5)) (.slice (some ⟨k, 0, none⟩) 2 2) [b, c] := by
  subst hk
  exact RdB.lit1 [b, c] (heap_alloc_new w _) rfl

set_option maxHeartbeats 1000000 in
theorem chunk_any (typ flags : Nat) (v : Value) (l : List UInt8) (w : World) (hv : RdB w v l) (ht : typ < 256) (hf : flags < 256) (hlen : l.length ≤ 140737488355000) :
    Calls Tryz.prog 21 #[.int .i64 typ, .int .i64 flags, v] w (RetB w (4 + l.length) (chunkB typ flags l)) := by
  obtain ⟨ao, c, rfl⟩ := hv.form
  have h2 := rd_new2 w w.heap.size rfl (UInt8.ofNat typ) (UInt8.ofNat flags)
  rw [show (UInt8.ofNat typ).toNat = typ by simp; omega, show (UInt8.ofNat flags).toNat = flags by simp; omega] at h2
  have e4 : (4 : Int) + (l.length : Int) = ((4 + l.length : Nat) : Int) := by omega
  have E4 := Lib.hid e4
  clear e4
  go_enter Tryz.func21, Tryz.ntmps21
  go_wp2_with (go_at_call 19; rw [E4.out]; refine (number2 (4 + l.length) _).mono ?_; rintro e w1 ⟨a1, c1, rfl, ho1, hb1⟩)
  have hrd := (joined_any _ [[UInt8.ofNat typ, UInt8.ofNat flags], be2 (4 + l.length), l] (4 + l.length) _ (rdbs_new w1 _ 3 rfl [_, _, _] _ 28 ⟨h2.grow hb1, ho1.rd, (hv.grow (grow_alloc _ _)).grow hb1, trivial⟩ rfl)
    (by have := chunkB_length typ flags l; unfold chunkB at this; omega) (by simp) (chunkB_length typ flags l))
  go_wp2_with (go_at_call 18; refine hrd.mono ?_; rintro e w2 ⟨a2, c2, rfl, ho2, hb2⟩)
  go_ret
  exact RetB.fin ((grow_alloc _ _).trans (hb1.trans (grow_alloc _ _))) ho2 hb2 (chunkB_length typ flags l)
end Go.Proofs.YtdpmbchamefkmaaGreatDoor
