import Derived.Test.Qxb6617343aWalkC
import Derived.Lib.BytesEntry
import Derived.Laws.Externs
namespace Go.Proofs.Qxb6617343a
open Go.RowKit

theorem cmp_same : ∀ x y : List UInt8, Lib.compareBytes x y = cmpL x y
  | [], [] => rfl
  | [], _ :: _ => rfl
  | _ :: _, [] => rfl
  | a :: x, b :: y => by
    unfold Lib.compareBytes cmpL
    rw [cmp_same x y]
    have e1 : (a < b) ↔ ((a.toNat : Int) < (b.toNat : Int)) := by rw [UInt8.lt_iff_toNat_lt]; omega
    have e2 : (b < a) ↔ ((b.toNat : Int) < (a.toNat : Int)) := by rw [UInt8.lt_iff_toNat_lt]; omega
    simp only [e1, e2]

theorem bytesOf_run (a : Option Addr) (c : Nat) (bs : List UInt8) (w : World) (h : BAt w a bs) : (Extern.Bytes.bytesOf (.slice a bs.length c)).run Try.prog w = .ok ⟨bs.toArray⟩ w := by
  by_cases h0 : bs.length = 0
  · have e : bs = [] := List.eq_nil_of_length_eq_zero h0
    subst e
    cases a <;> rfl
  · obtain ⟨b, off, rfl, hc⟩ := h.2 (by omega)
    have hl := Lib.run_loadBytesX (P := Try.prog) w (bs.map fun u => (u.toNat : Int)) ⟨b, off, none⟩ .empty (fun j x hj => by
      have hjl : j < bs.length := by
        have := (List.getElem?_eq_some_iff.1 hj).1
        simpa using this
      rw [WideShapes.add_plain, hc j hjl]
      have : (bs.map fun u => (u.toNat : Int))[j]? = some (bs[j].toNat : Int) := by simp [hjl]
      rw [this] at hj
      rw [Option.some.inj hj])
    have e1 : (bs.map fun u => (u.toNat : Int)).length = bs.length := by simp
    have e2 : Lib.bytesOf (bs.map fun u => (u.toNat : Int)) = bs := by simp [Lib.bytesOf, Function.comp_def]
    rw [e1, e2] at hl
    show (Extern.Bytes.loadBytes ⟨b, off, none⟩ bs.length .empty).run Try.prog w = _
    rw [hl]; simp

theorem compare_entry (a1 a2 : Option Addr) (c1 c2 : Nat) (x y : List UInt8) (w : World) (h1 : BAt w a1 x) (h2 : BAt w a2 y) :
    (callFunc 27 #[.slice a1 x.length c1, .slice a2 y.length c2]).run Try.prog w = .ok (.value (.int .i64 (cmpL x y))) w := by
  rw [run_callFunc_extern Try.func27 (by kernel_rfl) (by kernel_rfl) (by kernel_rfl) (e := Extern.BytealgCompare.compare) (by kernel_rfl)]
  change (Sem.run Try.prog (do pure (goInt (Extern.BytealgCompare.cmp (← Extern.Bytes.bytesOf (.slice a1 x.length c1)) (← Extern.Bytes.bytesOf (.slice a2 y.length c2))))) w).andThen _ = _
  simp only [Sem.run_bind, bytesOf_run a1 c1 x w h1, bytesOf_run a2 c2 y w h2, Result.andThen, Sem.run_pure, Lib.cmp_eq, cmp_same]
  rfl

theorem compare26 (s t : SL) (o p : OB) (v : Int) (w : World) (h1 : Hid (IsV w s o)) (h2 : Hid (IsV w t p)) (hv : Hid (cmpL (byL o) (byL p) = v)) :
    Calls Try.prog 26 #[.slice s.a s.n s.c, .slice t.a t.n t.c] w fun e w' => e = .returned (.int .i64 v) ∧ w' = w := by
  have hc := compare_entry s.a t.a s.c t.c (byL o) (byL p) w h1.out.2.2 h2.out.2.2
  rw [← h1.out.1, ← h2.out.1, hv.out] at hc
  go_enter Try.func26, Try.ntmps26
  go_wp2
  go_ret
  exact ⟨rfl, rfl⟩

theorem closure25 (s t u : SL) (tx : Int) (o p : OB) (v : Int) (w : World) (h1 : Hid (IsV w s o)) (h2 : Hid (IsV w t p)) (hv : Hid (cmpL (byL o) (byL p) = v)) :
    Calls Try.prog 25 #[.agg #[.slice s.a s.n s.c, .slice u.a u.n u.c, .int .u64 tx], .slice t.a t.n t.c] w fun e w' => e = .returned (.int .i64 v) ∧ Below w.heap.size w w' := by
  have hbel : Below w.heap.size w (w.alloc (.cells #[.slice s.a s.n s.c, .slice u.a u.n u.c, .int .u64 tx] 36)) := (Below.refl _ _).alloc (Nat.le_refl _) _
  have H1 : Hid (IsV (w.alloc (.cells #[.slice s.a s.n s.c, .slice u.a u.n u.c, .int .u64 tx] 36)) s o) := h1.out.keep (Keeps.of_below hbel)
  have H2 : Hid (IsV (w.alloc (.cells #[.slice s.a s.n s.c, .slice u.a u.n u.c, .int .u64 tx] 36)) t p) := h2.out.keep (Keeps.of_below hbel)
  have HB : Hid (Below w.heap.size w (w.alloc (.cells #[.slice s.a s.n s.c, .slice u.a u.n u.c, .int .u64 tx] 36))) := hbel
  clear hbel
  go_enter Try.func25, Try.ntmps25
  go_wp2_with (go_at_call 26; refine (compare26 _ _ _ _ _ _ H1 H2 hv).mono ?_; rintro e w' ⟨rfl, rfl⟩)
  go_ret
  exact ⟨rfl, HB.out⟩
end Go.Proofs.Qxb6617343a
