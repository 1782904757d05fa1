/-
  OURS. A buffer of the call's own that is filled from the front with the byte 97: 'Rep w wr N k': in wr the block w.heap.size bears N cells at least, none frozen; the first k hold 97; below it all is as in w. And 'copy' onto its end.
-/
import Derived.Test.Qxb6613369aRows
import Derived.WalkKit
import Derived.Laws.IdiomCopy
import Derived.Lib.MakeNoZero
import Derived.Deep.Draws
namespace Go.Proofs.Qxb6613369a
open Go.RowKit

theorem addPlain (b o i : Nat) : (⟨b, o, none⟩ : Addr).add i = ⟨b, o + i, none⟩ := by unfold Addr.add; split <;> simp_all

structure Rep (w wr : World) (N k : Nat) : Prop where
  below : Below w.heap.size w wr
  size : w.heap.size < wr.heap.size
  there : ∀ j, j < N → (wr.cell? ⟨w.heap.size, j, none⟩).isSome = true
  free : ∀ j, j < N → wr.frozen? ⟨w.heap.size, j, none⟩ = false
  holds : ∀ j, j < k → wr.cell? ⟨w.heap.size, j, none⟩ = some (.int .u8 97)

theorem setCells_below {B : Nat} {a : World} (b : Nat) (hb : B ≤ b) : ∀ (vs : List Value) (o : Nat) {w : World}, Below B a w → Below B a (w.setCells b o vs)
  | [], _, _, h => h
  | v :: r, o, _, h => setCells_below b hb r (o + 1) (h.setCell (p := ⟨b, o, none⟩) hb v)

theorem setCells_size (b : Nat) : ∀ (vs : List Value) (o : Nat) (w : World), (w.setCells b o vs).heap.size = w.heap.size
  | [], _, _ => rfl
  | v :: r, o, w => by rw [World.setCells, setCells_size b r]; simp [World.setCell]

theorem Rep.drew {w wr : World} {N k : Nat} (h : Rep w wr N k) : Rep w wr.drew N k :=
  ⟨h.below.drew, h.size, h.there, h.free, h.holds⟩

theorem Rep.start (w : World) (cs : Array Value) (e : TypeId) (N q : Nat) (hN : N ≤ cs.size) : Rep w ((w.alloc (.cells cs e)).drewN q) N 0 where
  below := ⟨rfl, rfl, rfl, by simp, fun k hk => heap_alloc_old w _ hk⟩
  size := by simp
  there := fun j hj => by
    rw [World.cell?_drewN, World.cell?_alloc_mark, Array.getElem?_eq_getElem (by omega)]
    rfl
  free := fun j _ => by
    rw [World.frozen?_drewN]
    have := World.frozen?_alloc_mark w cs e 0 0 j
    rw [this]
    simp
  holds := fun j hj => by omega

/-- 'copy' of m bytes 97 onto the end of what is filled. -/
theorem Rep.copy {w wr : World} {N k : Nat} (h : Rep w wr N k) (sLen m sCap : Nat) (a : Addr) (dCap : Nat) (ty : TypeId) (hk : k ≤ N) (hmin : m = min sLen (N - k))
    (hsrc : ∀ j, j < m → wr.cell? (a.add j) = some (.int .u8 97)) :
    ∃ wr', (Builtin.copy_ #[24, 24] ty #[.slice (some ⟨w.heap.size, k, none⟩) (N - k) dCap, .slice (some a) sLen sCap]).run Try.prog wr = .ok (.int .i64 (m : Int)) wr' ∧ Rep w wr' N (k + m) := by
  have hm : k + m ≤ N := by omega
  have hr := run_copy_cells (P := Try.prog) wr 24 24 ty 5 w.heap.size k (N - k) dCap a sLen sCap (List.replicate m (.int .u8 97)) Try.underlying24 (by kernel_rfl)
    (by rw [List.length_replicate]; exact hmin)
    (fun j u hj => by
      rw [List.getElem?_replicate] at hj
      split at hj
      · rename_i hjm
        obtain rfl := Option.some.inj hj
        exact hsrc j hjm
      · cases hj)
    (fun j hj => by rw [List.length_replicate] at hj; exact h.there _ (by omega))
    (fun j hj => by rw [List.length_replicate] at hj; exact h.free _ (by omega))
    (fun u hu => by rw [(List.mem_replicate.1 hu).2]; rfl)
  rw [List.length_replicate] at hr
  refine ⟨_, hr, ?_⟩
  have hin := World.cell?_setCells_in w.heap.size (List.replicate m (Value.int .u8 97)) k wr (fun j hj => by rw [List.length_replicate] at hj; exact h.there _ (by omega))
  have hout := World.cell?_setCells_out w.heap.size (List.replicate m (Value.int .u8 97)) k wr
  have hall : ∀ j, j < k + m → (wr.setCells w.heap.size k (List.replicate m (Value.int .u8 97))).cell? ⟨w.heap.size, j, none⟩ = some (.int .u8 97) := by
    intro j hj
    by_cases h1 : j < k
    · rw [hout ⟨w.heap.size, j, none⟩ (fun _ _ => Or.inl h1)]
      exact h.holds j h1
    · obtain ⟨d, rfl⟩ : ∃ d, j = k + d := ⟨j - k, by omega⟩
      rw [hin d (by rw [List.length_replicate]; omega), List.getElem_replicate]
  refine ⟨setCells_below _ (Nat.le_refl _) _ _ h.below, by rw [setCells_size]; exact h.size, ?_, ?_, hall⟩
  · intro j hj
    by_cases h1 : j < k + m
    · rw [hall j h1]; rfl
    · rw [hout ⟨w.heap.size, j, none⟩ (fun _ _ => by rw [List.length_replicate]; show j < _ ∨ _ ≤ j; omega)]
      exact h.there j hj
  · intro j hj
    rw [World.frozen?_setCells]
    exact h.free j hj

/-- 'copy' as one step of a region that draws its order, its run known by an equation. -/
theorem step_copy_known {P : Program} {ops : Array Oper} {o : Oper} {a : Act} {w : World} {K : Act → World → Prop} {Q : Exit → Act → World → Prop} {E : Prop}
    (hg : o.guard = none) (d x : Operand) (dT sT : TypeId) (hop : o.op = Op.call { callee := Callee.builtin Builtin.copy, args := #[d, x], argTypes := #[dT, sT] })
    (v u : Value) (hd : a.eval d = v) (hx : a.eval x = u) {v' : Value} {w' : World} (hr : (Builtin.copy_ #[dT, sT] o.type #[v, u]).run P w = .ok v' w') (hK : K (a.put o.dst v') w') :
    if Region.wanted o (yielded ops a.tmps) = true then Oper.wp P o a w K Q else E := by
  have hw : Region.wanted o (yielded ops a.tmps) = true := by simp [Region.wanted, hg]
  rw [if_pos hw]
  unfold Oper.wp
  simp [execOp, hop, resolve, invoke, builtin, hd, hx, hr, Result.andThen]
  exact hK

/-- .. and outside such a region. -/
theorem wpList_copy_known {P : Program} (w : World) {ops : Array Oper} {rest : List Oper} {o : Oper} {a : Act} {Q : Exit → Act → World → Prop} (hgd : o.guard = none) (d s : Operand) (t t' : TypeId)
    (ho : o.op = .call { callee := .builtin .copy, args := #[d, s], argTypes := #[t, t'] }) (v u : Value) (hd : a.eval d = v) (hs : a.eval s = u) {v' : Value} {w' : World}
    (hr : (Builtin.copy_ #[t, t'] o.type #[v, u]).run P w = .ok v' w') (h : wpList P ops Q rest (a.put o.dst v') w') : wpList P ops Q (o :: rest) a w :=
  wpList_plain hgd fun K hK => by
    have h' := hK _ _ h
    unfold Oper.wp execOp
    simp only [ho, resolve, invoke, builtin, Sem.run_bind, Sem.run_pure, Result.andThen_ok, List.map_toArray, List.map_cons, List.map_nil, hd, hs, hr]
    exact h'

/-- internal/bytealg.MakeNoZero, body-less: by the model's entry. -/
theorem makeNoZero_call (w : World) (T : Nat) (hT : T ≤ 281474976710656) :
    ∃ cs : Array Value, (callFunc 17 #[.int .i64 (T : Int)]).run Try.prog w = .ok (.value (.slice (some ⟨w.heap.size, 0, none⟩) T cs.size)) ((w.alloc (.cells cs 5)).drewN 2) ∧ T ≤ cs.size := by
  obtain ⟨cs, hrunM, hle, _⟩ := Lib.run_makeNoZero (P := Try.prog) w #[3] 24 5 Try.underlying24 T hT
  refine ⟨cs, ?_, hle⟩
  rw [run_callFunc_extern Try.func17 (by kernel_rfl) (by kernel_rfl) (by kernel_rfl) (e := Extern.BytealgMakeNoZero.makeNoZero #[3] #[24]) (by kernel_rfl), hrunM]
  rfl

end Go.Proofs.Qxb6613369a
