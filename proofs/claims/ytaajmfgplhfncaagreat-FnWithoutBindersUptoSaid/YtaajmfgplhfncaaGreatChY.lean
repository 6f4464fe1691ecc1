/- ClientHello: how long its extensions are; what the laws on what is made rest on. -/
import Derived.Test.YtaajmfgplhfncaaGreatChX
import Derived.Test.YtaajmfgplhfncaaGreatChZ
namespace Go.Proofs.YtaajmfgplhfncaaGreat
open Go.RowKit
set_option maxRecDepth 100000
theorem bz_sum (l : List Item) : (l.map fun i => bz i.1 (4 + i.2.2.b.length)).sum ≤ (l.map fun i => 4 + i.2.2.b.length).sum := by
  induction l with
  | nil => exact Nat.le_refl _
  | cons x l ih =>
    simp only [List.map_cons, List.sum_cons]
    have : bz x.1 (4 + x.2.2.b.length) ≤ 4 + x.2.2.b.length := by cases x.1 <;> simp [bz]
    omega
theorem vector_len (n : Nat) (x : Wr) : (Wr.vector n x).b.length = n + x.b.length := by rw [vector_b, List.length_append, be_len]
theorem sum_le {α : Type} (f : α → Nat) (K : Nat) : ∀ l : List α, (∀ i ∈ l, f i ≤ K) → (l.map f).sum ≤ l.length * K
  | [], _ => by simp
  | x :: l, h => by
    have h1 := h x (by simp)
    have h2 := sum_le f K l (fun i hi => h i (by simp [hi]))
    rw [List.map_cons, List.sum_cons, List.length_cons, Nat.succ_mul]
    omega
theorem item_len {t : Ch} (hZ : ChSz t) : ∀ i, i < 19 → (chItem t i).2.2.b.length ≤ 16777000 := by
  intro i hi
  have e : i = 0 ∨ i = 1 ∨ i = 2 ∨ i = 3 ∨ i = 4 ∨ i = 5 ∨ i = 6 ∨ i = 7 ∨ i = 8 ∨ i = 9 ∨ i = 10 ∨ i = 11 ∨ i = 12 ∨ i = 13 ∨ i = 14 ∨ i = 15 ∨ i = 16 ∨ i = 17 ∨ i = 18 := by omega
  have ew : ∀ l : List UInt16, (wordsW l).b.length = 2 * l.length := fun l => wordsB_len l
  have ev : ∀ (n : Nat) (x : Wr), x.b.length ≤ 16000000 → n ≤ 2 → (Wr.vector n x).b.length ≤ 16777000 := fun n x h hn => by rw [vector_len]; omega
  have hw : ∀ (n : Nat) (l : List UInt16), l.length ≤ 1048576 → n ≤ 2 → (Wr.vector n (wordsW l)).b.length ≤ 16777000 := fun n l h hn => ev n _ (by rw [ew]; omega) hn
  have hp : ∀ (n : Nat) (l : List UInt8), l.length ≤ 1048576 → n ≤ 2 → (Wr.vector n (Wr.plain l)).b.length ≤ 16777000 := fun n l h hn => ev n _ (Nat.le_trans h (by omega)) hn
  have hq : ∀ (l : List UInt8), l.length ≤ 1048576 → (Wr.plain l).b.length ≤ 16777000 := fun l h => Nat.le_trans h (by omega)
  have hz : Wr.nil.b.length ≤ 16777000 := Nat.zero_le _
  rcases e with rfl | rfl | rfl | rfl | rfl | rfl | rfl | rfl | rfl | rfl | rfl | rfl | rfl | rfl | rfl | rfl | rfl | rfl | rfl
  · exact ev 2 (hostW t.host) (by rw [hostW_b]; have := hZ.host; simp [be_len]; omega) (by omega)
  · show statusW.b.length ≤ 16777000; rw [statusW_b]; simp
  · exact hw 2 _ hZ.curves (by omega)
  · exact hp 1 _ hZ.pts (by omega)
  · exact hq _ hZ.tick
  · exact hw 2 _ hZ.sig (by omega)
  · exact hw 2 _ hZ.sigc (by omega)
  · exact hp 1 _ hZ.rn (by omega)
  · exact hz
  · exact ev 2 (vecsW 1 t.alpn) (by have := vecsB_lst 1 t.alpn; have := hZ.alpn; show (vecsB 1 t.alpn).length ≤ _; omega) (by omega)
  · exact hz
  · exact hw 1 _ hZ.sv (by omega)
  · exact hp 2 _ hZ.cookie (by omega)
  · exact ev 2 (kshW (chKs t)) (by have := kshB_cost (chKs t); have := hZ.vks; show (kshB (chKs t)).length ≤ _; omega) (by omega)
  · exact hz
  · exact hp 1 _ hZ.modes (by omega)
  · exact hq _ hZ.qtp
  · exact hq _ hZ.ech
  · show ((Wr.vector 2 (identsW (chPs t))).b ++ (Wr.vector 2 (vecsW 1 t.pb)).b).length ≤ 16777000
    rw [List.length_append, vector_len, vector_len]
    have k1 : (identsW (chPs t)).b.length ≤ 8388608 := Nat.le_trans (identsB_cost (chPs t)) hZ.vps
    have k2 : (vecsW 1 t.pb).b.length ≤ 2097152 := Nat.le_trans (vecsB_lst 1 t.pb) (Nat.mul_le_mul_left 2 hZ.pb)
    omega
theorem chE_len {t : Ch} (hZ : ChSz t) : (exsB (chE t)).length ≤ 1000000000 := by
  have hs : (exsB (chE t)).length ≤ ((chItems t).map fun i => 4 + i.2.2.b.length).sum := by
    rw [chE_eq, itemsE_size]
    exact bz_sum (chItems t)
  have hl : (chItems t).length = 19 := rfl
  have h2 := sum_le (fun i : Item => 4 + i.2.2.b.length) 16777004 (chItems t) (fun x hx => by
    unfold chItems at hx
    obtain ⟨i, hi, rfl⟩ := List.mem_map.1 hx
    have hi19 : i < 19 := by
      simp only [List.mem_cons, List.not_mem_nil, or_false] at hi
      omega
    have := item_len hZ i hi19
    show 4 + _ ≤ _
    omega)
  rw [hl] at h2
  exact Nat.le_trans hs (Nat.le_trans h2 (by decide))
section
variable {w w' : World} {B : Nat} {v : Value} {t : Ch}
/-- the reference's writing of the message with its extensions in the reference's order -/
theorem Write_ChE (hv : ChV w B v t) (hz : ChSz t) {C N : Nat} {content : Value} (hc : Exr w C N content (chExtL t).l) : Calls Tryz.prog 9 #[v, content] w (MsgP w (messageW 1 (chW t (chE t)))) :=
  Write_Ch hv hz hc (by have := chE_len hz; show (exsB (chE t)).length ≤ _; omega)
end
end Go.Proofs.YtaajmfgplhfncaaGreat
