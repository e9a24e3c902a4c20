import Derived.Test.Qxb6617343aSmall
namespace Go.Proofs.Qxb6617343a
open Go.RowKit
section
variable {B : Nat} {w : World} {bt gr : Nat} {R : List RW} {d : Bool} {mv : Option Nat} {M : AM}
theorem len19 (h : TS B w bt gr R d mv M) : Calls Try.prog 19 #[.pointer (some ⟨bt, 0, none⟩)] w fun e w' => e = .returned (.int .i64 M.length) ∧ w' = w := by
  have c := h.c2
  cases mv with
  | none =>
    have hM := h.mapN rfl
    subst hM
    clear h
    go_enter Try.func19, Try.ntmps19
    go_wp2
    go_ret
    exact ⟨rfl, rfl⟩
  | some bm =>
    obtain ⟨_, es, clock, hb, he⟩ := h.mapS bm rfl
    have hlen : M.length = es.size := by
      have := congrArg List.length he
      simpa using this.symm
    rw [hlen]
    have hln : (Builtin.len_ #[54] 3 #[.map (some bm)]).run Try.prog w = .ok (.int .i64 es.size) w := run_len_map w 54 3 bm es clock (by kernel_rfl) hb
    clear h he hlen
    go_enter Try.func19, Try.ntmps19
    go_wp2
    go_ret
    exact ⟨rfl, rfl⟩

/-- the version of a key, or the zero one -/
def getV (M : AM) (k : List UInt8) : VR := (look M k).getD ⟨⟨none, 0, 0⟩, 0, false⟩
theorem lookupM (h : TS B w bt gr R d mv M) (k : List UInt8) (W : World) (hW : ∀ i, i < w.heap.size → W.heap[i]? = w.heap[i]?) :
    (Instr.lookup 54 (.map mv) (.string (sb k)) true).run Try.prog W = .ok (.tuple #[verV (getV M k), .bool (look M k).isSome]) W := by
  cases mv with
  | none =>
    have hM := h.mapN rfl
    subst hM
    exact lookup_nil W k
  | some bm =>
    obtain ⟨_, es, clock, hb, he⟩ := h.mapS bm rfl
    have := lookup_is W bm M k ⟨es, clock, (hW bm (Array.getElem?_eq_some_iff.1 hb).1).trans hb, he⟩
    rw [this]
    unfold getV
    cases look M k <;> rfl
set_option maxHeartbeats 1000000 in
theorem get20 (h : TS B w bt gr R d mv M) (k : List UInt8) : Calls Try.prog 20 #[.pointer (some ⟨bt, 0, none⟩), .string (sb k)] w
    fun e w' => e = .returned (.tuple #[verV (getV M k), .bool (look M k).isSome]) ∧ Below w.heap.size w w' := by
  have hl := lookupM h k
  have hlt := h.lt
  have c : ∀ o, (w.alloc o).cell? ⟨bt, 2, none⟩ = some (.map mv) := fun o => by
    rw [Below.cell ((Below.refl w.heap.size w).alloc (Nat.le_refl _) o) (p := ⟨bt, 2, none⟩) hlt]; exact h.c2
  have hl1 : (Instr.lookup 54 (.map mv) (.string (sb k)) true).run Try.prog (w.alloc (.cells #[.slice none 0 0, .int .u64 0, .bool false] 39)) = .ok (.tuple #[.agg #[.slice (getV M k).v.a (getV M k).v.n (getV M k).v.c, .int .u64 (getV M k).t, .bool (getV M k).d], .bool (look M k).isSome]) (w.alloc (.cells #[.slice none 0 0, .int .u64 0, .bool false] 39)) :=
    hl _ (fun i hi => Below.heap_alloc _ _ _ hi)
  generalize getV M k = q at hl1 ⊢
  generalize (look M k).isSome = b at hl1 ⊢
  clear hl h
  go_enter Try.func20, Try.ntmps20
  go_wp2
  refine bodyPost_ret (v := .tuple #[verV q, .bool b]) (by simp [results, Try.results20, go_sem, verV]) rfl ⟨rfl, ?_⟩
  exact ((Below.refl _ _).alloc (Nat.le_refl _) _).alloc (by simp) _
end
end Go.Proofs.Qxb6617343a
