import Derived.Test.Qxb6617343aGet
import Derived.Test.Qxb6617343aBytes
namespace Go.Proofs.Qxb6617343a
open Go.RowKit
set_option maxRecDepth 100000
/-- the tested function's frame, slot by slot -/
def Fr (x : Nat → Value) : Array Value := #[x 0, x 1, x 2, x 3, x 4, x 5, x 6, x 7, x 8, x 9, x 10, x 11, x 12, x 13, x 14, x 15, x 16, x 17, x 18, x 19, x 20, x 21, x 22, x 23, x 24, x 25, x 26, x 27, x 28, x 29, x 30, x 31, x 32, x 33, x 34, x 35, x 36, x 37, x 38, x 39, x 40, x 41, x 42, x 43, x 44, x 45, x 46, x 47, x 48, x 49, x 50, x 51, x 52, x 53, x 54, x 55, x 56, x 57, x 58, x 59, x 60, x 61, x 62, x 63, x 64, x 65, x 66, x 67, x 68, x 69, x 70, x 71, x 72, x 73, x 74, x 75, x 76, x 77, x 78, x 79, x 80, x 81, x 82, x 83, x 84, x 85, x 86, x 87, x 88, x 89, x 90, x 91, x 92, x 93, x 94, x 95, x 96, x 97, x 98, x 99, x 100, x 101, x 102, x 103, x 104, x 105, x 106, x 107, x 108, x 109, x 110, x 111, x 112, x 113, x 114, x 115, x 116, x 117, x 118, x 119, x 120, x 121, x 122, x 123, x 124, x 125, x 126, x 127, x 128, x 129, x 130, x 131, x 132, x 133, x 134, x 135, x 136, x 137, x 138, x 139, x 140, x 141, x 142, x 143, x 144, x 145, x 146, x 147, x 148, x 149, x 150, x 151, x 152, x 153, x 154, x 155, x 156, x 157, x 158, x 159, x 160, x 161, x 162, x 163, x 164, x 165, x 166, x 167, x 168, x 169, x 170, x 171, x 172, x 173, x 174, x 175, x 176, x 177, x 178, x 179, x 180, x 181, x 182, x 183, x 184, x 185, x 186, x 187, x 188, x 189, x 190, x 191, x 192, x 193, x 194, x 195, x 196, x 197, x 198, x 199, x 200, x 201, x 202, x 203, x 204, x 205, x 206, x 207, x 208, x 209, x 210, x 211, x 212, x 213, x 214, x 215, x 216, x 217, x 218, x 219, x 220, x 221, x 222, x 223, x 224, x 225, x 226, x 227, x 228, x 229, x 230, x 231, x 232, x 233, x 234, x 235, x 236, x 237, x 238, x 239, x 240, x 241, x 242, x 243, x 244, x 245, x 246, x 247, x 248, x 249, x 250, x 251, x 252, x 253, x 254, x 255, x 256, x 257, x 258, x 259, x 260, x 261, x 262, x 263, x 264, x 265, x 266, x 267, x 268, x 269, x 270, x 271, x 272, x 273, x 274, x 275, x 276, x 277, x 278, x 279, x 280, x 281, x 282, x 283, x 284, x 285, x 286, x 287, x 288, x 289, x 290, x 291, x 292, x 293, x 294, x 295, x 296, x 297, x 298, x 299, x 300, x 301, x 302, x 303, x 304, x 305, x 306, x 307, x 308, x 309, x 310, x 311, x 312, x 313, x 314, x 315, x 316, x 317, x 318, x 319, x 320, x 321, x 322, x 323, x 324, x 325, x 326, x 327, x 328, x 329, x 330, x 331, x 332, x 333, x 334, x 335, x 336, x 337, x 338, x 339, x 340, x 341, x 342, x 343, x 344, x 345, x 346, x 347, x 348, x 349, x 350, x 351, x 352, x 353, x 354, x 355, x 356, x 357, x 358, x 359, x 360, x 361, x 362, x 363, x 364, x 365, x 366, x 367, x 368, x 369, x 370, x 371, x 372, x 373, x 374, x 375, x 376, x 377, x 378, x 379, x 380, x 381, x 382, x 383, x 384, x 385, x 386, x 387, x 388, x 389, x 390, x 391, x 392, x 393, x 394, x 395, x 396, x 397, x 398, x 399, x 400, x 401, x 402, x 403, x 404]
theorem Fr_eq (x : Nat → Value) : Fr x = ((List.range 405).map x).toArray := rfl
/-- what is known of a frame -/
def Has (a : Act) (L : List (Nat × Value)) : Prop := a.tmps.size = 405 ∧ a.defers = [] ∧ ∀ p ∈ L, a.tmps[p.1]? = some p.2
theorem Has.open {a : Act} {L : List (Nat × Value)} (h : Has a L) : ∃ x : Nat → Value, a = ⟨Fr x, []⟩ ∧ ∀ p ∈ L, x p.1 = p.2 := by
  obtain ⟨h1, h2, h3⟩ := h
  refine ⟨fun i => (a.tmps[i]?).getD undef, ?_, fun p hp => by simp [h3 p hp]⟩
  obtain ⟨t, d⟩ := a
  simp only at h1 h2 h3 ⊢
  subst h2
  have : t = Fr fun i => (t[i]?).getD undef := by
    rw [Fr_eq]
    apply Array.ext
    · simp [h1]
    · intro i hi _
      simp [hi]
  rw [← this]
theorem Has.mk' {t : Array Value} {L : List (Nat × Value)} (h1 : t.size = 405) (h3 : ∀ p ∈ L, t[p.1]? = some p.2) : Has ⟨t, []⟩ L := ⟨h1, rfl, h3⟩

/-- a frame of which some slots are known -/
theorem wp_abstract {c : Code} {Q : Exit → Act → World → Prop} {t : Array Value} {w : World} (L : List (Nat × Value)) (h : ∀ p ∈ L, t[p.1]? = some p.2) (hs : t.size = 405)
    (hk : ∀ t' : Array Value, t'.size = 405 → (∀ p ∈ L, ∃ h, t'[p.1]'h = p.2) → Code.wp Try.prog c Q ⟨t', []⟩ w) : Code.wp Try.prog c Q ⟨t, []⟩ w := hk t hs fun p hp => Array.getElem?_eq_some_iff.1 (h p hp)
theorem Has.sym {a : Act} {L : List (Nat × Value)} (h : Has a L) : ∃ t : Array Value, a = ⟨t, []⟩ ∧ t.size = 405 ∧ ∀ p ∈ L, ∃ h, t[p.1]'h = p.2 := by
  obtain ⟨h1, h2, h3⟩ := h
  obtain ⟨t, d⟩ := a
  simp only at h1 h2 h3
  subst h2
  exact ⟨t, rfl, h1, fun p hp => Array.getElem?_eq_some_iff.1 (h3 p hp)⟩
/-- the code, statement by statement -/
def nthC : Nat → Code → Code
  | 0, .seq a _ => a
  | n + 1, .seq _ b => nthC n b
  | _, c => c
def restC : Nat → Code → Code
  | 0, c => c
  | n + 1, .seq _ b => restC n b
  | _ + 1, c => c
def fb (f : Func) : Code := f.body.getD .skip
def seg (f : Func) (k : Nat) : Code := nthC k (fb f)

/-- what the call was given -/
structure Ctx where
  a0 : Option Addr
  a1 : Option Addr
  a2 : Option Addr
  a4 : Option Addr
  a5 : Option Addr
  a6 : Option Addr
  a7 : Option Addr
  c0 : Nat
  c1 : Nat
  c2 : Nat
  c4 : Nat
  c5 : Nat
  c6 : Nat
  c7 : Nat
  d : Bool
  n : Nat
  m : Nat
  T1 : List SL
  T2 : List SL
  T3 : List SL
  T4 : List SL
  K : List OB
  V : List OB
  SK : List OB
  SV : List OB
  U : List Int
  S : List Int
  D : List Bool
def CAt (w : World) (a : Option Addr) (L : List Value) : Prop :=
  0 < L.length → ∃ b off, a = some ⟨b, off, none⟩ ∧ ∀ (i : Nat) (h : i < L.length), w.cell? ⟨b, off + i, none⟩ = some L[i]
structure Inp (X : Ctx) (w : World) : Prop where
  k : OAt w X.a0 X.T1
  v : OAt w X.a1 X.T2
  sk : OAt w X.a4 X.T3
  sv : OAt w X.a5 X.T4
  u : CAt w X.a2 (X.U.map (Value.int .u64))
  s : CAt w X.a6 (X.S.map (Value.int .u64))
  dd : CAt w X.a7 (X.D.map Value.bool)
  ik : ∀ (i : Nat) (h : i < X.T1.length) (h' : i < X.K.length), IsV w X.T1[i] X.K[i]
  iv : ∀ (i : Nat) (h : i < X.T2.length) (h' : i < X.V.length), IsV w X.T2[i] X.V[i]
  isk : ∀ (i : Nat) (h : i < X.T3.length) (h' : i < X.SK.length), IsV w X.T3[i] X.SK[i]
  isv : ∀ (i : Nat) (h : i < X.T4.length) (h' : i < X.SV.length), IsV w X.T4[i] X.SV[i]
  l1 : X.T1.length = X.n
  l2 : X.T2.length = X.n
  l3 : X.T3.length = X.m
  l4 : X.T4.length = X.m
  lK : X.K.length = X.n
  lV : X.V.length = X.n
  lU : X.U.length = X.n
  lSK : X.SK.length = X.m
  lSV : X.SV.length = X.m
  lS : X.S.length = X.m
  lD : X.D.length = X.m
  hn : X.n ≤ 4096
  hm : X.m ≤ 512
  asc : Asc X.K
theorem CAt.below {w w' : World} {a : Option Addr} {L : List Value} (h : CAt w a L) (hb : Below w.heap.size w w') : CAt w' a L := fun hp => by
  obtain ⟨b, off, e, hc⟩ := h hp
  exact ⟨b, off, e, fun i hi => by rw [hb.cell (cell_lt (hc i hi))]; exact hc i hi⟩
theorem OAt.below {w w' : World} {a : Option Addr} {L : List SL} (h : OAt w a L) (hb : Below w.heap.size w w') : OAt w' a L := by
  obtain ⟨h1, h2⟩ := h
  refine ⟨h1, fun hp => ?_⟩
  obtain ⟨b, off, e, hc⟩ := h2 hp
  exact ⟨b, off, e, fun i hi => by rw [hb.cell (cell_lt (hc i hi))]; exact hc i hi⟩
theorem Inp.below {X : Ctx} {w w' : World} (h : Inp X w) (hb : Below w.heap.size w w') : Inp X w' :=
  ⟨h.k.below hb, h.v.below hb, h.sk.below hb, h.sv.below hb, h.u.below hb, h.s.below hb, h.dd.below hb,
   fun i p q => (h.ik i p q).keep (.of_below hb), fun i p q => (h.iv i p q).keep (.of_below hb), fun i p q => (h.isk i p q).keep (.of_below hb), fun i p q => (h.isv i p q).keep (.of_below hb),
   h.l1, h.l2, h.l3, h.l4, h.lK, h.lV, h.lU, h.lSK, h.lSV, h.lS, h.lD, h.hn, h.hm, h.asc⟩

theorem Inp.atK {X : Ctx} {w : World} (h : Inp X w) (i : Nat) (hi : i < X.n) : ∃ b o t p, X.a0 = some ⟨b, o, none⟩ ∧ w.cell? ⟨b, o + i, none⟩ = some (.slice t.a t.n t.c) ∧ IsV w t p ∧ X.K[i]? = some p := by
  obtain ⟨b, o, e, c⟩ := h.k.2 (by rw [h.l1]; omega)
  exact ⟨b, o, X.T1[i]'(by rw [h.l1]; omega), X.K[i]'(by rw [h.lK]; omega), e, c i (by rw [h.l1]; omega), h.ik i (by rw [h.l1]; omega) (by rw [h.lK]; omega), List.getElem?_eq_getElem _⟩
theorem Inp.atV {X : Ctx} {w : World} (h : Inp X w) (i : Nat) (hi : i < X.n) : ∃ b o t p, X.a1 = some ⟨b, o, none⟩ ∧ w.cell? ⟨b, o + i, none⟩ = some (.slice t.a t.n t.c) ∧ IsV w t p ∧ X.V[i]? = some p := by
  obtain ⟨b, o, e, c⟩ := h.v.2 (by rw [h.l2]; omega)
  exact ⟨b, o, X.T2[i]'(by rw [h.l2]; omega), X.V[i]'(by rw [h.lV]; omega), e, c i (by rw [h.l2]; omega), h.iv i (by rw [h.l2]; omega) (by rw [h.lV]; omega), List.getElem?_eq_getElem _⟩
theorem Inp.atSK {X : Ctx} {w : World} (h : Inp X w) (i : Nat) (hi : i < X.m) : ∃ b o t p, X.a4 = some ⟨b, o, none⟩ ∧ w.cell? ⟨b, o + i, none⟩ = some (.slice t.a t.n t.c) ∧ IsV w t p ∧ X.SK[i]? = some p := by
  obtain ⟨b, o, e, c⟩ := h.sk.2 (by rw [h.l3]; omega)
  exact ⟨b, o, X.T3[i]'(by rw [h.l3]; omega), X.SK[i]'(by rw [h.lSK]; omega), e, c i (by rw [h.l3]; omega), h.isk i (by rw [h.l3]; omega) (by rw [h.lSK]; omega), List.getElem?_eq_getElem _⟩
theorem Inp.atSV {X : Ctx} {w : World} (h : Inp X w) (i : Nat) (hi : i < X.m) : ∃ b o t p, X.a5 = some ⟨b, o, none⟩ ∧ w.cell? ⟨b, o + i, none⟩ = some (.slice t.a t.n t.c) ∧ IsV w t p ∧ X.SV[i]? = some p := by
  obtain ⟨b, o, e, c⟩ := h.sv.2 (by rw [h.l4]; omega)
  exact ⟨b, o, X.T4[i]'(by rw [h.l4]; omega), X.SV[i]'(by rw [h.lSV]; omega), e, c i (by rw [h.l4]; omega), h.isv i (by rw [h.l4]; omega) (by rw [h.lSV]; omega), List.getElem?_eq_getElem _⟩
theorem Inp.atU {X : Ctx} {w : World} (h : Inp X w) (i : Nat) (hi : i < X.n) : ∃ b o u, X.a2 = some ⟨b, o, none⟩ ∧ w.cell? ⟨b, o + i, none⟩ = some (.int .u64 u) ∧ X.U[i]? = some u := by
  obtain ⟨b, o, e, c⟩ := h.u (by rw [List.length_map, h.lU]; omega)
  have c := c i (by rw [List.length_map, h.lU]; omega)
  rw [List.getElem_map] at c
  exact ⟨b, o, _, e, c, List.getElem?_eq_getElem (by rw [h.lU]; omega)⟩
theorem Inp.atS {X : Ctx} {w : World} (h : Inp X w) (i : Nat) (hi : i < X.m) : ∃ b o u, X.a6 = some ⟨b, o, none⟩ ∧ w.cell? ⟨b, o + i, none⟩ = some (.int .u64 u) ∧ X.S[i]? = some u := by
  obtain ⟨b, o, e, c⟩ := h.s (by rw [List.length_map, h.lS]; omega)
  have c := c i (by rw [List.length_map, h.lS]; omega)
  rw [List.getElem_map] at c
  exact ⟨b, o, _, e, c, List.getElem?_eq_getElem (by rw [h.lS]; omega)⟩
theorem Inp.atD {X : Ctx} {w : World} (h : Inp X w) (i : Nat) (hi : i < X.m) : ∃ b o u, X.a7 = some ⟨b, o, none⟩ ∧ w.cell? ⟨b, o + i, none⟩ = some (.bool u) ∧ X.D[i]? = some u := by
  obtain ⟨b, o, e, c⟩ := h.dd (by rw [List.length_map, h.lD]; omega)
  have c := c i (by rw [List.length_map, h.lD]; omega)
  rw [List.getElem_map] at c
  exact ⟨b, o, _, e, c, List.getElem?_eq_getElem (by rw [h.lD]; omega)⟩

/-- the slots of the parameters -/
def base (X : Ctx) (L : List (Nat × Value)) : List (Nat × Value) :=
  (0, .slice X.a0 X.n X.c0) :: (1, .slice X.a1 X.n X.c1) :: (2, .slice X.a2 X.n X.c2) :: (3, .bool X.d) :: (4, .slice X.a4 X.m X.c4) :: (5, .slice X.a5 X.m X.c5) :: (6, .slice X.a6 X.m X.c6) :: (7, .slice X.a7 X.m X.c7) :: L
/-- a counter that goes up to n, down to 0 -/
def mu (k n : Nat) (a : Act) (_ : World) : Nat := match a.tmps[k]? with | some (Value.int _ i) => n - i.toNat | _ => 0
def muD (k : Nat) (a : Act) (_ : World) : Nat := match a.tmps[k]? with | some (Value.int _ i) => (i + 1).toNat | _ => 0
/-- what is asked at the end -/
def PostF (w : World) (e : Ending) (w' : World) : Prop := e = .returned (.bool true) ∧ Below w.heap.size w w'
end Go.Proofs.Qxb6617343a
