/-
Chunks of user data, and those that move the number on, yet to be read.
-/
import Derived.Test.YtdpmbchamefkmaaGreatDoorData2
import Derived.Test.YtdpmbchamefkmaaGreatDoorFwd2
import Derived.Test.YtdpmbchamefkmaaGreatDoorFwd3
namespace Go.Proofs.YtdpmbchamefkmaaGreatDoor
open Go.RowKit

theorem invokeMarshal100 (p : Value) (w : World) : (invoke (.fn (.method "loop.example/pub-g03037/pub/sctp.marshal") #[]) #[.iface 100 p]).run Tryz.prog w = .ok (.enter 106 #[p]) w := by kernel_rfl
theorem invokeUnmarshal100 (b : Nat) (x : Value) (w : World) : (invoke (.fn (.method "loop.example/pub-g03037/pub/sctp.unmarshal") #[]) #[.iface 100 (.pointer (some ⟨b, 0, none⟩)), x]).run Tryz.prog w = .ok (.enter 108 #[.pointer (some ⟨b, 0, none⟩), x]) w := by kernel_rfl
theorem invokeLength100 (b : Nat) (w : World) : (invoke (.fn (.method "loop.example/pub-g03037/pub/sctp.valueLength") #[]) #[.iface 100 (.pointer (some ⟨b, 0, none⟩))]).run Tryz.prog w = .ok (.enter 67 #[.pointer (some ⟨b, 0, none⟩)]) w := by kernel_rfl
theorem invokeMarshal114 (p : Value) (w : World) : (invoke (.fn (.method "loop.example/pub-g03037/pub/sctp.marshal") #[]) #[.iface 114 p]).run Tryz.prog w = .ok (.enter 117 #[p]) w := by kernel_rfl
theorem invokeUnmarshal114 (b : Nat) (x : Value) (w : World) : (invoke (.fn (.method "loop.example/pub-g03037/pub/sctp.unmarshal") #[]) #[.iface 114 (.pointer (some ⟨b, 0, none⟩)), x]).run Tryz.prog w = .ok (.enter 118 #[.pointer (some ⟨b, 0, none⟩), x]) w := by kernel_rfl
theorem invokeLength114 (b : Nat) (w : World) : (invoke (.fn (.method "loop.example/pub-g03037/pub/sctp.valueLength") #[]) #[.iface 114 (.pointer (some ⟨b, 0, none⟩))]).run Tryz.prog w = .ok (.enter 67 #[.pointer (some ⟨b, 0, none⟩)]) w := by kernel_rfl

theorem Kept.base {B lo hi : Nat} {w0 w w' : World} (h : Kept B lo hi w w') (hg : Grow w0 w) (hB : w0.heap.size = B) : ∀ k, k < w0.heap.size → w'.heap[k]? = w0.heap[k]? := fun k hk =>
  (h.block k (.inl (by omega)) (Nat.lt_of_lt_of_le hk hg.size)).trans (hg.block k hk)

theorem data_unread (b : Nat) (l : List UInt8) (hl : KnownData l) (w1 w : World)
    (hb : Blk w b 104 [.int .u8 0, .int .u8 0, .slice none 0 0, .int .u64 0, .bool false, .bool false, .bool false, .bool false, .int .u32 0, .int .u16 0, .int .u16 0, .int .u32 0, .int .u32 0, .int .u32 0, .slice none 0 0, .bool false,
      .bool false, .int .u32 0, .int .u32 0, .bool false, .bool false, .bool false, .pointer none, .pointer none, .pointer none, .bool false]) : Unread w1 b w (.iface 100 (.pointer (some ⟨b, 0, none⟩))) l := by
  obtain ⟨un, be, en, im, tsn, sid, seq, ppi, user, rfl, htsn, hsid, hseq, hppi, hU⟩ := hl
  refine ⟨100, 108, 67, 104, _, rfl, hb, invokeUnmarshal100 b, invokeLength100 b, fun v rest w' hv hrest hz hg hle hb' => ?_⟩
  refine (dataUnmarshal_any b un be en im tsn sid seq ppi user _ _ _ _ _ _ _ _ _ _ _ _ _ _ _ _ _ v rest w1 w' hv hg hle hb' htsn hsid hseq hppi hU hrest hz).mono ?_
  rintro e w'' ⟨ra, rc, ua, uc, rfl, hus, hbB, ho⟩
  have hg2 := ho.below hg hle
  refine ⟨rfl, ho, 104, _, hbB, fun hi w3 hk h1 h2 => ?_, fun w3 hb3 => ?_⟩
  · have hb1 := hbB.lt
    refine ⟨hle, by omega, h2, 100, _, 106, rfl, invokeMarshal100 _, fun w4 hk4 => ?_⟩
    have hk2 := hk.trans hk4
    refine (dataMarshal_any b un be en im tsn sid seq ppi user _ _ _ _ _ ua uc _ w4 (hk2.blk (Nat.le_refl _) (by omega) hbB) (hus.same (hk2.base hg2 rfl)) htsn hsid hseq hppi hU).mono ?_
    rintro e w5 ⟨g, rfl, hle', hblk, ho'⟩
    exact ⟨g, by rw [chunkB_length], hle', hblk, .of_only ho' (Nat.le_refl _) (by omega)⟩
  · have := valueLength_any b 104 _ _ _ _ _ _ w3 hb3
    rw [chunkB_length, Nat.add_sub_cancel_left]
    exact this

theorem fwd_unread (b : Nat) (l : List UInt8) (hl : KnownFwd l) (w1 w : World) (hb : Blk w b 117 [.int .u8 0, .int .u8 0, .slice none 0 0, .int .u32 0, .slice none 0 0]) : Unread w1 b w (.iface 114 (.pointer (some ⟨b, 0, none⟩))) l := by
  obtain ⟨tsn, ss, rfl, htsn, hss, hS⟩ := hl
  refine ⟨114, 118, 67, 117, _, rfl, hb, invokeUnmarshal114 b, invokeLength114 b, fun v rest w' hv hrest hz hg hle hb' => ?_⟩
  refine (fwdUnmarshal_any b tsn ss _ _ _ _ v rest w1 w' hv hg hle hb' htsn hss hS hrest hz).mono ?_
  rintro e w'' ⟨ra, rc, va, vc, rfl, hbB, hown, ho⟩
  have hbl := hb'.lt
  refine ⟨rfl, ho, 117, _, hbB, fun hi w3 hk h1 h2 => ?_, fun w3 hb3 => ?_⟩
  · have hb1 := hbB.lt
    refine ⟨hle, by omega, h2, 114, _, 117, rfl, invokeMarshal114 _, fun w4 hk4 => ?_⟩
    have hk2 := hk.trans hk4
    have hown4 := own_block (w' := w4) hown fun g hg => hk2.block g (.inr ⟨by have := (hown.lt g hg).1; omega, by have := (hown.lt g hg).2; omega⟩) (hown.lt g hg).2
    refine (fwdMarshal_any b tsn ss ra _ rc va vc w4 (hk2.blk (Nat.le_refl _) (by omega) hbB) (Rd.of_own hown4) htsn hss hS).mono ?_
    rintro e w5 ⟨g, rfl, hle', hblk, ho'⟩
    exact ⟨g, by rw [chunkB_length], hle', hblk, .of_only ho' (Nat.le_refl _) (by omega)⟩
  · have := valueLength_any b 117 _ _ _ _ _ _ w3 hb3
    rw [chunkB_length, Nat.add_sub_cancel_left]
    exact this

/-- a chunk that is known -/
def Known (l : List UInt8) : Prop := KnownSack l ∨ KnownData l ∨ KnownFwd l
theorem Known.four {l : List UInt8} (h : Known l) : 4 ≤ l.length := by
  rcases h with ⟨_, _, _, _, rfl, _⟩ | ⟨_, _, _, _, _, _, _, _, _, rfl, _⟩ | ⟨_, _, rfl, _⟩ <;> (rw [chunkB_length]; omega)
theorem Known.most {l : List UInt8} (h : Known l) : l.length ≤ 9000 := by
  rcases h with ⟨_, _, _, _, rfl, _, _, _, _, h1, h2⟩ | ⟨_, _, _, _, _, _, _, _, _, rfl, _, _, _, _, h⟩ | ⟨_, _, rfl, _, _, h⟩
  · rw [chunkB_length, sackB_length]; omega
  · rw [chunkB_length, dataB_length]; omega
  · rw [chunkB_length, fwdB_length]; omega
end Go.Proofs.YtdpmbchamefkmaaGreatDoor
