import PyProof.Rows.All
import Wide.All
import OpenK.AllK
import Wide.FinOn
import PySem.Challenge.RW_pe0240_01
open PySem PySem.W PyProof.Rows
set_option Elab.async false
set_option maxRecDepth 100000
set_option maxHeartbeats 8000000
namespace Mine
noncomputable def vw : Program := view Challenge.pw_pe0240_01 [0, 6, 8, 10, 11, 12, 13, 14, 15]
section
local macro_rules | `(tactic| o_head $_) => `(tactic| assumption)
/-- the objects of the text, written out as dk.heap -/
theorem dk (h : Challenge.rw_pe0240_01.row.Holds) : Challenge.rw_pe0240_01.row.Holds := by k_head
end
noncomputable abbrev hk : Hook := (kmHook dk.heap_1 [2, 3, 15, 17, 18, 20, 21, 22, 23, 24, 26, 27, 29, 30, 31, 32, 33, 35, 36, 38, 39, 40, 41, 42, 44, 45, 47, 48, 56, 58, 59, 61, 62, 63, 65, 66, 68, 69, 70, 72, 73, 75, 76, 77, 79, 80, 82, 83, 84, 85, 86, 87, 88, 101, 103, 104, 106, 107, 108, 110, 111, 113, 114, 115, 117, 118, 120, 121, 122, 124, 125, 127, 128, 129, 131, 132, 134, 135, 136, 138, 139, 141, 142, 143, 145, 146, 148, 149, 150, 151, 152, 153, 154, 157, 159, 160, 162, 163, 164, 167, 168, 169, 172, 173, 174, 177, 178, 179, 181, 182, 184, 185, 186, 189, 190] (fun _ => by kernel_rfl) [180, 158, 187])
noncomputable abbrev xt (s : Shared) : Bool := xlAt vw [] s && recOk (RowW.records Challenge.rw_pe0240_01.row.toRowW) s
/-- what the top's end is asked to show -/
noncomputable abbrev seenT (s : Shared) := (openSeen vw [Str.ofString "insort_right", Str.ofString "bisect_right", Str.ofString "bisect_left", Str.ofString "Whitespace"] (importedModules Challenge.rw_pe0240_01.row.prog.main.body) xt true s, hk.obs s)
theorem top0 (w : World) (os : OsState) : (topFrom treeTable Challenge.rw_pe0240_01.row.prog (w.withFollow "special-get-raises" false) 2482 ⟨boot_heap (w.withFollow "special-get-raises" false).params, Array.mk [], boot_drawn, boot_toks, os⟩).map seenT = some (openGood vw [Str.ofString "insort_right", Str.ofString "bisect_right", Str.ofString "bisect_left", Str.ofString "Whitespace"], hk.val (w.withFollow "special-get-raises" false)) := by kernel_rfl
theorem top1 (w : World) (os : OsState) : (topFrom treeTable Challenge.rw_pe0240_01.row.prog (w.withFollow "special-get-raises" true) 2482 ⟨boot_heap (w.withFollow "special-get-raises" true).params, Array.mk [], boot_drawn, boot_toks, os⟩).map seenT = some (openGood vw [Str.ofString "insort_right", Str.ofString "bisect_right", Str.ofString "bisect_left", Str.ofString "Whitespace"], hk.val (w.withFollow "special-get-raises" true)) := by kernel_rfl
theorem endsOf {p : Program} {w : World} {N : Nat} {s : Shared} (hs : fencedOpening treeTable p w N = some s) : openEnds treeTable p w N = topFrom treeTable p w N s := by
  unfold openEnds
  rw [hs]; rfl
/-- the top from the boot on -/
theorem left0 : LeftO Challenge.rw_pe0240_01.row.prog vw [Str.ofString "insort_right", Str.ofString "bisect_right", Str.ofString "bisect_left", Str.ofString "Whitespace"] xt hk.obs hk.val 2482 := by
  have e : opening Challenge.rw_pe0240_01.row.prog = plainProg Challenge.rw_pe0240_01.row.prog.main.scope.names := by kernel_rfl
  have key : ∀ w : World, (∀ os : OsState, (topFrom treeTable Challenge.rw_pe0240_01.row.prog w 2482 ⟨boot_heap w.params, Array.mk [], boot_drawn, boot_toks, os⟩).map seenT = some (openGood vw [Str.ofString "insort_right", Str.ofString "bisect_right", Str.ofString "bisect_left", Str.ofString "Whitespace"], hk.val w)) →
      (openEnds treeTable Challenge.rw_pe0240_01.row.prog w 2482).map seenT = some (openGood vw [Str.ofString "insort_right", Str.ofString "bisect_right", Str.ofString "bisect_left", Str.ofString "Whitespace"], hk.val w) := fun w h => by
    obtain ⟨⟨hp, gs, dr, tk, os⟩, hs, hv⟩ := Option.map_eq_some_iff.mp (boot_open (N := 2482) e (by decide) (fun s => by kernel_rfl) w)
    simp only [Prod.mk.injEq] at hv
    obtain ⟨rfl, rfl, rfl, rfl⟩ := hv
    rw [endsOf hs]
    exact h os
  exact fun w => byRow2 "special-get-raises" (P := fun w => (openEnds treeTable Challenge.rw_pe0240_01.row.prog w 2482).map seenT = some (openGood vw [Str.ofString "insort_right", Str.ofString "bisect_right", Str.ofString "bisect_left", Str.ofString "Whitespace"], hk.val w)) (fun w => key _ (top0 w)) (fun w => key _ (top1 w)) w
end Mine
local macro_rules | `(tactic| omega) => `(tactic| first | with_reducible assumption | with_reducible exact Nat.le_of_ble_eq_true rfl | lia | omega +splitDisjunctions)
namespace Mine
-- one-step existentials and conjunctions: taken apart and made in one step
inductive Ex1 {α1 : Type} (p : α1 → Prop) : Prop where
  | mk (a1 : α1) (h : p a1) : Ex1 p
inductive Ex2 {α1 α2 : Type} (p : α1 → α2 → Prop) : Prop where
  | mk (a1 : α1) (a2 : α2) (h : p a1 a2) : Ex2 p
inductive Ex3 {α1 α2 α3 : Type} (p : α1 → α2 → α3 → Prop) : Prop where
  | mk (a1 : α1) (a2 : α2) (a3 : α3) (h : p a1 a2 a3) : Ex3 p
inductive Ex4 {α1 α2 α3 α4 : Type} (p : α1 → α2 → α3 → α4 → Prop) : Prop where
  | mk (a1 : α1) (a2 : α2) (a3 : α3) (a4 : α4) (h : p a1 a2 a3 a4) : Ex4 p
inductive Ex5 {α1 α2 α3 α4 α5 : Type} (p : α1 → α2 → α3 → α4 → α5 → Prop) : Prop where
  | mk (a1 : α1) (a2 : α2) (a3 : α3) (a4 : α4) (a5 : α5) (h : p a1 a2 a3 a4 a5) : Ex5 p
inductive Ex6 {α1 α2 α3 α4 α5 α6 : Type} (p : α1 → α2 → α3 → α4 → α5 → α6 → Prop) : Prop where
  | mk (a1 : α1) (a2 : α2) (a3 : α3) (a4 : α4) (a5 : α5) (a6 : α6) (h : p a1 a2 a3 a4 a5 a6) : Ex6 p
inductive Ex7 {α1 α2 α3 α4 α5 α6 α7 : Type} (p : α1 → α2 → α3 → α4 → α5 → α6 → α7 → Prop) : Prop where
  | mk (a1 : α1) (a2 : α2) (a3 : α3) (a4 : α4) (a5 : α5) (a6 : α6) (a7 : α7) (h : p a1 a2 a3 a4 a5 a6 a7) : Ex7 p
inductive Ex8 {α1 α2 α3 α4 α5 α6 α7 α8 : Type} (p : α1 → α2 → α3 → α4 → α5 → α6 → α7 → α8 → Prop) : Prop where
  | mk (a1 : α1) (a2 : α2) (a3 : α3) (a4 : α4) (a5 : α5) (a6 : α6) (a7 : α7) (a8 : α8) (h : p a1 a2 a3 a4 a5 a6 a7 a8) : Ex8 p
inductive Ex9 {α1 α2 α3 α4 α5 α6 α7 α8 α9 : Type} (p : α1 → α2 → α3 → α4 → α5 → α6 → α7 → α8 → α9 → Prop) : Prop where
  | mk (a1 : α1) (a2 : α2) (a3 : α3) (a4 : α4) (a5 : α5) (a6 : α6) (a7 : α7) (a8 : α8) (a9 : α9) (h : p a1 a2 a3 a4 a5 a6 a7 a8 a9) : Ex9 p
inductive Ex12 {α1 α2 α3 α4 α5 α6 α7 α8 α9 α10 α11 α12 : Type} (p : α1 → α2 → α3 → α4 → α5 → α6 → α7 → α8 → α9 → α10 → α11 → α12 → Prop) : Prop where
  | mk (a1 : α1) (a2 : α2) (a3 : α3) (a4 : α4) (a5 : α5) (a6 : α6) (a7 : α7) (a8 : α8) (a9 : α9) (a10 : α10) (a11 : α11) (a12 : α12) (h : p a1 a2 a3 a4 a5 a6 a7 a8 a9 a10 a11 a12) : Ex12 p
inductive Ex15 {α1 α2 α3 α4 α5 α6 α7 α8 α9 α10 α11 α12 α13 α14 α15 : Type} (p : α1 → α2 → α3 → α4 → α5 → α6 → α7 → α8 → α9 → α10 → α11 → α12 → α13 → α14 → α15 → Prop) : Prop where
  | mk (a1 : α1) (a2 : α2) (a3 : α3) (a4 : α4) (a5 : α5) (a6 : α6) (a7 : α7) (a8 : α8) (a9 : α9) (a10 : α10) (a11 : α11) (a12 : α12) (a13 : α13) (a14 : α14) (a15 : α15) (h : p a1 a2 a3 a4 a5 a6 a7 a8 a9 a10 a11 a12 a13 a14 a15) : Ex15 p
inductive C2 (p1 p2 : Prop) : Prop where
  | mk (h1 : p1) (h2 : p2) : C2 p1 p2
inductive C3 (p1 p2 p3 : Prop) : Prop where
  | mk (h1 : p1) (h2 : p2) (h3 : p3) : C3 p1 p2 p3
inductive C4 (p1 p2 p3 p4 : Prop) : Prop where
  | mk (h1 : p1) (h2 : p2) (h3 : p3) (h4 : p4) : C4 p1 p2 p3 p4
inductive C5 (p1 p2 p3 p4 p5 : Prop) : Prop where
  | mk (h1 : p1) (h2 : p2) (h3 : p3) (h4 : p4) (h5 : p5) : C5 p1 p2 p3 p4 p5
inductive C6 (p1 p2 p3 p4 p5 p6 : Prop) : Prop where
  | mk (h1 : p1) (h2 : p2) (h3 : p3) (h4 : p4) (h5 : p5) (h6 : p6) : C6 p1 p2 p3 p4 p5 p6
inductive C8 (p1 p2 p3 p4 p5 p6 p7 p8 : Prop) : Prop where
  | mk (h1 : p1) (h2 : p2) (h3 : p3) (h4 : p4) (h5 : p5) (h6 : p6) (h7 : p7) (h8 : p8) : C8 p1 p2 p3 p4 p5 p6 p7 p8
inductive C9 (p1 p2 p3 p4 p5 p6 p7 p8 p9 : Prop) : Prop where
  | mk (h1 : p1) (h2 : p2) (h3 : p3) (h4 : p4) (h5 : p5) (h6 : p6) (h7 : p7) (h8 : p8) (h9 : p9) : C9 p1 p2 p3 p4 p5 p6 p7 p8 p9
inductive C11 (p1 p2 p3 p4 p5 p6 p7 p8 p9 p10 p11 : Prop) : Prop where
  | mk (h1 : p1) (h2 : p2) (h3 : p3) (h4 : p4) (h5 : p5) (h6 : p6) (h7 : p7) (h8 : p8) (h9 : p9) (h10 : p10) (h11 : p11) : C11 p1 p2 p3 p4 p5 p6 p7 p8 p9 p10 p11
inductive C12 (p1 p2 p3 p4 p5 p6 p7 p8 p9 p10 p11 p12 : Prop) : Prop where
  | mk (h1 : p1) (h2 : p2) (h3 : p3) (h4 : p4) (h5 : p5) (h6 : p6) (h7 : p7) (h8 : p8) (h9 : p9) (h10 : p10) (h11 : p11) (h12 : p12) : C12 p1 p2 p3 p4 p5 p6 p7 p8 p9 p10 p11 p12
inductive C13 (p1 p2 p3 p4 p5 p6 p7 p8 p9 p10 p11 p12 p13 : Prop) : Prop where
  | mk (h1 : p1) (h2 : p2) (h3 : p3) (h4 : p4) (h5 : p5) (h6 : p6) (h7 : p7) (h8 : p8) (h9 : p9) (h10 : p10) (h11 : p11) (h12 : p12) (h13 : p13) : C13 p1 p2 p3 p4 p5 p6 p7 p8 p9 p10 p11 p12 p13
inductive C21 (p1 p2 p3 p4 p5 p6 p7 p8 p9 p10 p11 p12 p13 p14 p15 p16 p17 p18 p19 p20 p21 : Prop) : Prop where
  | mk (h1 : p1) (h2 : p2) (h3 : p3) (h4 : p4) (h5 : p5) (h6 : p6) (h7 : p7) (h8 : p8) (h9 : p9) (h10 : p10) (h11 : p11) (h12 : p12) (h13 : p13) (h14 : p14) (h15 : p15) (h16 : p16) (h17 : p17) (h18 : p18) (h19 : p19) (h20 : p20) (h21 : p21) : C21 p1 p2 p3 p4 p5 p6 p7 p8 p9 p10 p11 p12 p13 p14 p15 p16 p17 p18 p19 p20 p21
end Mine
namespace Mine
open PySem PySem.W PyProof.Rows PySem.Calls
noncomputable abbrev VW : Program := Challenge.rw_pe0240_01.row.prog
noncomputable abbrev LO : List Str := looseW vw [Str.ofString "insort_right", Str.ofString "bisect_right", Str.ofString "bisect_left", Str.ofString "Whitespace"] ++ (recsOf vw).map (·.name) ++ (litsOf vw).map (·.1) ++ (clssOf vw (looseW vw [Str.ofString "insort_right", Str.ofString "bisect_right", Str.ofString "bisect_left", Str.ofString "Whitespace"])).map (·.name)

/-- the heap h lies over the ground g, with the objects `news` beside it -/
structure On (g h : Heap) (news : List (Addr × Obj)) : Prop where
  keep : g.StaysIn h
  size : g.objs.size ≤ h.objs.size
  nw : ∀ p ∈ news, h.get? p.1 = some p.2 ∧ g.get? p.1 = none

theorem pj2 {a1 p q : Prop} (h : a1 ∧ p ∧ q) : p := h.2.1
theorem pj3 {a1 a2 p q : Prop} (h : a1 ∧ a2 ∧ p ∧ q) : p := h.2.2.1
theorem pj4 {a1 a2 a3 p q : Prop} (h : a1 ∧ a2 ∧ a3 ∧ p ∧ q) : p := h.2.2.2.1
theorem pj5 {a1 a2 a3 a4 p q : Prop} (h : a1 ∧ a2 ∧ a3 ∧ a4 ∧ p ∧ q) : p := h.2.2.2.2.1
theorem pj6 {a1 a2 a3 a4 a5 p q : Prop} (h : a1 ∧ a2 ∧ a3 ∧ a4 ∧ a5 ∧ p ∧ q) : p := h.2.2.2.2.2.1
theorem pj7 {a1 a2 a3 a4 a5 a6 p q : Prop} (h : a1 ∧ a2 ∧ a3 ∧ a4 ∧ a5 ∧ a6 ∧ p ∧ q) : p := h.2.2.2.2.2.2.1
theorem pj8 {a1 a2 a3 a4 a5 a6 a7 p q : Prop} (h : a1 ∧ a2 ∧ a3 ∧ a4 ∧ a5 ∧ a6 ∧ a7 ∧ p ∧ q) : p := h.2.2.2.2.2.2.2.1
theorem pj9 {a1 a2 a3 a4 a5 a6 a7 a8 p q : Prop} (h : a1 ∧ a2 ∧ a3 ∧ a4 ∧ a5 ∧ a6 ∧ a7 ∧ a8 ∧ p ∧ q) : p := h.2.2.2.2.2.2.2.2.1
theorem pj10 {a1 a2 a3 a4 a5 a6 a7 a8 a9 p q : Prop} (h : a1 ∧ a2 ∧ a3 ∧ a4 ∧ a5 ∧ a6 ∧ a7 ∧ a8 ∧ a9 ∧ p ∧ q) : p := h.2.2.2.2.2.2.2.2.2.1
theorem pj11 {a1 a2 a3 a4 a5 a6 a7 a8 a9 a10 p q : Prop} (h : a1 ∧ a2 ∧ a3 ∧ a4 ∧ a5 ∧ a6 ∧ a7 ∧ a8 ∧ a9 ∧ a10 ∧ p ∧ q) : p := h.2.2.2.2.2.2.2.2.2.2.1
theorem pj12 {a1 a2 a3 a4 a5 a6 a7 a8 a9 a10 a11 p q : Prop} (h : a1 ∧ a2 ∧ a3 ∧ a4 ∧ a5 ∧ a6 ∧ a7 ∧ a8 ∧ a9 ∧ a10 ∧ a11 ∧ p ∧ q) : p := h.2.2.2.2.2.2.2.2.2.2.2.1
/-- the law's places lie above the fixed ones -/
structure LitF (L lw dx la pb : Nat) : Prop where
  c1 : @LT.lt Nat _ 187 lw
  c2 : @LT.lt Nat _ 187 dx
  c3 : @LT.lt Nat _ 187 la
  c4 : @LT.lt Nat _ 187 pb
  d2 : @LT.lt Nat _ (L + 7) dx
  d3 : @LT.lt Nat _ (L + 7) la
  d4 : @LT.lt Nat _ (L + 7) pb
theorem litOf {L dx la pb lw : Nat} (h1 : @LT.lt Nat _ 187 L) (h2 : @LT.lt Nat _ (L + 7) lw) (h3 : @LT.lt Nat _ lw dx) (h4 : @LT.lt Nat _ lw la) (h5 : @LT.lt Nat _ lw pb) : LitF L lw dx la pb :=
  ⟨by omega, by omega, by omega, by omega, by omega, by omega, by omega⟩
/-- a mark: k_ne may look deep -/
structure Deep : Prop
theorem deepLt {a b : Nat} (_ : Deep) (h : a < b) : a ≠ b := Nat.ne_of_lt h
theorem deepGt {a b : Nat} (_ : Deep) (h : b < a) : a ≠ b := Nat.ne_of_gt h
theorem litNe {b c : Nat} (hc : Nat.ble c 187 = true) (h : 187 < b) : c ≠ b := Nat.ne_of_lt (Nat.lt_of_le_of_lt (Nat.le_of_ble_eq_true hc) h)
theorem litEn {b c : Nat} (hc : Nat.ble c 187 = true) (h : 187 < b) : b ≠ c := Ne.symm (litNe hc h)
theorem offLt {L b i : Nat} (hi : Nat.ble i 7 = true) (h : L + 7 < b) : L + i ≠ b := Nat.ne_of_lt (Nat.lt_of_le_of_lt (Nat.add_le_add_left (Nat.le_of_ble_eq_true hi) L) h)
theorem offGt {L b i : Nat} (hi : Nat.ble i 7 = true) (h : L + 7 < b) : b ≠ L + i := Ne.symm (offLt hi h)
theorem offNe {a i j : Nat} (h : i ≠ j) : a + i ≠ a + j := fun e => h (Nat.add_left_cancel e)
/-- the state told by its heap alone -/
theorem wpFlat {α : Type} {M : Model} {A : Around} {c : Sem α} {Q : α → Shared → Prop} {E : Value → Shared → Prop} {s' s : Shared} {g h : Heap} {L : Addr} {m : Str → Option Value} (_F : Fr g L h m) (hh : s'.heap = h) (hg : s'.gens = s.gens) (hd : s'.drawn = s.drawn) (ho : s'.os = s.os)
    (H : ∀ tk, wpAny M A c Q E { s with heap := h, toks := tk }) : wpAny M A c Q E s' := by
  obtain ⟨h', g', d', t', o'⟩ := s'
  dsimp only at hh hg hd ho
  subst hh hg hd ho
  exact H t'
/-- what every call may lean on: the text's own objects, room for n more frames -/
structure Gr (w : World) (mean : ExcName → Option Value) (mg mb : Str → Option Value) (A : Around) (n : Nat) (g : Heap) : Prop where
  X : (dk.heap_1 w.params).In g
  T : Top topProg LO mean mg mb g
  hh : A.handled = none
  room : A.depth + n < recursionLimit
  units : A.units + 10 * n < cLine

theorem cLine_big : 3 < cLine := by decide

section
variable {w : World} {mean : ExcName → Option Value} {mg mb : Str → Option Value} {A : Around} {g g' : Heap} {n k : Nat}
theorem Gr.keeps (G : Gr w mean mg mb A n g) (st : g.StaysIn g') : Gr w mean mg mb A n g' := ⟨G.X.keeps st, G.T.keeps st, G.hh, G.room, G.units⟩
theorem Gr.le (G : Gr w mean mg mb A n g) (h : k ≤ n) : Gr w mean mg mb A k g := ⟨G.X, G.T, G.hh, by have := G.room; omega, by have := G.units; omega⟩
theorem Gr.deeper {env : Env} (G : Gr w mean mg mb A (n + 1) g) : Gr w mean mg mb (A.deeper env) n g :=
  ⟨G.X, G.T, G.hh, by have := G.room; simp only [depth_deeper]; omega, by have := G.units; simp only [units_deeper]; omega⟩
end

section
variable {w : World} {mean : ExcName → Option Value} {mg mb : Str → Option Value} {A : Around} {g : Heap} {s : Shared} {R : Result → Shared → Prop} {news : List (Addr × Obj)} {k : Nat}
  {name qual : Str} {params : Arguments} {body : List Stmt} {scope : Scope} {cl : List (Str × Addr)} {dV kV doc pm cdv ct oc : Value} {an od : Option Addr} {osl : Array (Option Value)} {fo : Obj} {f : Addr} {args : Args} {binds : List (Str × Value)}

/-- entering a def without cells of its own -/
theorem enterOn (O : On g s.heap news) (G : Gr w mean mg mb A (k + 1) g)
    (ho : s.heap.get? f = some fo) (hd : fo.data = .func (fnX name qual params body scope cl dV kV doc pm an cdv ct)) (hcd : s.heap.CodeRec cdv qual)
    (hbind : BindsTo s (fnX name qual params body scope cl dV kV doc pm an cdv ct) args binds) (hloc : ∀ y ∈ binds, scope.names.lookup y.1 = some .local)
    (h : ∀ L' h₁, Fr g L' h₁ (fun y => binds.reverse.lookup y) → News g L' h₁ news → (∀ p ∈ news, p.1 < L') → Gr w mean mg mb (A.deeper (envX qual scope L' f cdv cl)) k g →
      wpAny (model VW w) (A.deeper (envX qual scope L' f cdv cl)) (execs body (envX qual scope L' f cdv cl))
        (fun fl s' => R (.ok (.ret (match fl with | .ret v => v | _ => .none))) s')
        (fun _ _ => False)
        { s with heap := h₁, toks := s.toks + binds.length })
    (hcell : ∀ x ∈ scope.names, x.2 ≠ .cell) (hco : scope.isCoroutine = false := by rfl) (hgen : scope.isGenerator = false := by rfl) (hk : scope.kind = .function := by rfl) :
    codeAny (model VW w) A (.call (.ref f) args) R s := by
  refine codeAny_call_def (fd := fnX name qual params body scope cl dV kV doc pm an cdv ct) (body := body) (binds := binds) (by have := G.room; omega) ho hd (G.T.nolimit.keeps O.keep) hcd rfl hbind hcell hloc (fun h₁ hns hk₁ => ?_) hco hgen hk
  exact wpAny_mono (h s.heap.objs.size h₁ ⟨hns, fun b o e => hk₁ b o (O.keep b o e), O.size⟩
    (fun p hp => ⟨hk₁ _ _ (O.nw p hp).1, Nat.ne_of_lt (Heap.lt_size (O.nw p hp).1), (O.nw p hp).2⟩) (fun p hp => Heap.lt_size (O.nw p hp).1) G.deeper) (fun fl s' hl => hl) fun _ _ y => y.elim

theorem enterK (O : On g s.heap news) (G : Gr w mean mg mb A (k + 1) g)
    (ho : (dk.heap_1 w.params).lookup f = some ⟨oc, od, .func (fnOf name qual params body scope dV kV doc pm an cdv ct), osl⟩) (hcd : codeIn (dk.heap_1 w.params) cdv qual = true)
    (hbind : BindsTo s (fnOf name qual params body scope dV kV doc pm an cdv ct) args binds) (hloc : ∀ y ∈ binds, scope.names.lookup y.1 = some .local)
    (h : ∀ L' h₁, Fr g L' h₁ (fun y => binds.reverse.lookup y) → News g L' h₁ news → (∀ p ∈ news, p.1 < L') → Frag.In (dk.heap_1 w.params) g → Top topProg LO mean mg mb g → Gr w mean mg mb (A.deeper (envOf qual scope L' f cdv)) k g →
      wpAny (model VW w) (A.deeper (envOf qual scope L' f cdv)) (execs body (envOf qual scope L' f cdv))
        (fun fl s' => R (.ok (.ret (match fl with | .ret v => v | _ => .none))) s')
        (fun _ _ => False)
        { s with heap := h₁, toks := s.toks + binds.length })
    (hco : scope.isCoroutine = false) (hgen : scope.isGenerator = false) (hk : scope.kind = .function)
    (hcell : ∀ x ∈ scope.names, x.2 ≠ .cell) :
    codeAny (model VW w) A (.call (.ref f) args) R s :=
  enterOn (cl := []) O G ((G.X.keeps O.keep) _ _ ho) rfl (codeRec_of (G.X.keeps O.keep) hcd) hbind hloc (fun L' h₁ F N l G' => h L' h₁ F N l G.X G.T G') hcell hco hgen hk
end

section
variable {w : World} {mean : ExcName → Option Value} {mg mb : Str → Option Value} {A : Around} {g : Heap} {s : Shared} {R : Result → Shared → Prop} {news : List (Addr × Obj)} {k : Nat}
  {name qual : Str} {params : Arguments} {body : List Stmt} {scope : Scope} {dV kV doc pm cdv ct oc : Value} {an od : Option Addr} {osl : Array (Option Value)} {fo : Obj} {f : Addr} {args : Args} {binds : List (Str × Value)}
/-- entering a def with cells of its own -/
theorem enterC (O : On g s.heap news) (G : Gr w mean mg mb A (k + 1) g)
    (ho : (dk.heap_1 w.params).lookup f = some ⟨oc, od, .func (fnOf name qual params body scope dV kV doc pm an cdv ct), osl⟩) (hcd : codeIn (dk.heap_1 w.params) cdv qual = true)
    (hbind : BindsTo s (fnOf name qual params body scope dV kV doc pm an cdv ct) args binds)
    (hkind : (binds.all fun y => scope.names.lookup y.1 == some .local || scope.names.lookup y.1 == some .cell) = true)
    (hnd : ((cellsFrom 0 scope.names []).map (·.1)).Nodup)
    (h : ∀ L' h₁ tk cells, Fr g L' h₁ (bindL (envOfC qual scope L' f cdv).kindOf binds fun _ => none) → News g L' h₁ (cells ++ news) →
      CellsAre (bindC (envOfC qual scope L' f cdv).kindOf binds fun _ => none) (cellsFrom (L' + 1) scope.names []) cells → (∀ p ∈ news, p.1 < L') → Frag.In (dk.heap_1 w.params) g → Top topProg LO mean mg mb g → Gr w mean mg mb (A.deeper (envOfC qual scope L' f cdv)) k g →
      wpAny (model VW w) (A.deeper (envOfC qual scope L' f cdv)) (execs body (envOfC qual scope L' f cdv))
        (fun fl s' => R (.ok (.ret (match fl with | .ret v => v | _ => .none))) s')
        (fun _ _ => False)
        { s with heap := h₁, toks := tk })
    (hco : scope.isCoroutine = false) (hgen : scope.isGenerator = false) (hk : scope.kind = .function) :
    codeAny (model VW w) A (.call (.ref f) args) R s := by
  have X := G.X.keeps O.keep
  refine codeAny_call_function (by have := G.room; omega) (X _ _ ho) rfl hco hgen rfl (codeRec_of X hcd) (hbind _ _ _ _ ?_)
  refine wpAny_newFunctionEnv_cells hk (kindsX hkind _) fun env' he s' x => ?_
  subst he
  refine ⟨(G.T.nolimit.keeps O.keep).keeps x.toInCall.keep, codeAny_func ?_⟩
  obtain ⟨h₁, tk, rfl, _⟩ := x.done
  have hk₁ := x.toInCall.keep
  obtain ⟨cells, NC, Y⟩ := Cl.news (h₀ := s.heap) (Nat.le_refl _) fun n c hm => ⟨x.cell n c (lookup_of_mem_nodup (cellsFrom_names scope.names 0 (s.heap.objs.size + 1) [] [] rfl ▸ hnd) hm), x.above n c hm⟩
  refine wpAny_mono (h s.heap.objs.size h₁ tk cells ⟨x.toInCall.ns, fun b o e => hk₁ b o (O.keep b o e), O.size⟩ (fun p hp => ?_) Y (fun p hp => Heap.lt_size (O.nw p hp).1) G.X G.T G.deeper) (fun fl s' hl => hl) fun _ _ y => y.elim
  rcases List.mem_append.mp hp with hp | hp
  · refine ⟨(NC p hp).1, (NC p hp).2.1, ?_⟩
    cases q : g.get? p.1 with
    | none => rfl
    | some o => have := O.keep _ _ q; rw [(NC p hp).2.2] at this; cases this
  · exact ⟨hk₁ _ _ (O.nw p hp).1, Nat.ne_of_lt (Heap.lt_size (O.nw p hp).1), (O.nw p hp).2⟩
end

section
variable {M : Model} {A : Around} {E : Value → Shared → Prop} {s : Shared} {g : Heap} {L : Addr} {m mg mb : Str → Option Value} {env : Env} {x : Str} {pos : Pos} {v : Value} {Q : Value → Shared → Prop} {news : List (Addr × Obj)} {c : Addr} {o : Obj}
/-- names of any env -/
theorem nmL (F : Fr g L s.heap m) (hL : env.locals = L) (hk : env.scope.kind = .function) (hx : env.kindOf x = some .local) (hv : m x = some v) (hd : (x == ("__debug__" : Str)) = false) (h : Q v s) :
    wpAny M A (eval (.Name x pos) env) Q E s := by subst hL; exact wpAny_Name (wpAny_loadName_local hk hx F.ns hv h) hd
theorem nmC (N : News g L s.heap news) (hk : env.scope.kind = .function) (hx : env.kindOf x = some .cell) (hc : env.cells.lookup x = some c) (hm : (c, o) ∈ news) (hd : o.data = .cell (some v)) (hb : (x == ("__debug__" : Str)) = false) (h : Q v s) :
    wpAny M A (eval (.Name x pos) env) Q E s := wpAny_Name (wpAny_loadName_cell hk hx hc ⟨o, N.get hm, hd⟩ h) hb
theorem nmF (N : News g L s.heap news) (hk : env.scope.kind = .function) (hx : env.kindOf x = some .free) (hc : env.cells.lookup x = some c) (hm : (c, o) ∈ news) (hd : o.data = .cell (some v)) (hb : (x == ("__debug__" : Str)) = false) (hn : (x == ("__classdict__" : Str)) = false) (h : Q v s) :
    wpAny M A (eval (.Name x pos) env) Q E s := wpAny_Name (wpAny_loadName_free hk hx hc ⟨o, N.get hm, hd⟩ h hn) hb
theorem nmCg (F : Fr g L s.heap m) (hk : env.scope.kind = .function) (hx : env.kindOf x = some .cell) (hc : env.cells.lookup x = some c) (hm : g.IsCell c (some v)) (hb : (x == ("__debug__" : Str)) = false) (h : Q v s) :
    wpAny M A (eval (.Name x pos) env) Q E s := wpAny_Name (wpAny_loadName_cell hk hx hc (hm.keeps F.keep) h) hb
theorem nmFg (F : Fr g L s.heap m) (hk : env.scope.kind = .function) (hx : env.kindOf x = some .free) (hc : env.cells.lookup x = some c) (hm : g.IsCell c (some v)) (hb : (x == ("__debug__" : Str)) = false) (hn : (x == ("__classdict__" : Str)) = false) (h : Q v s) :
    wpAny M A (eval (.Name x pos) env) Q E s := wpAny_Name (wpAny_loadName_free hk hx hc (hm.keeps F.keep) h hn) hb
variable {K : Frag} {p : Program} {loose : List Str} {mean : ExcName → Option Value}
theorem nmB (F : Fr g L s.heap m) (X : K.In g) (T : Top p loose mean mg mb g) (e : nsIn K mainGlobals x = some none) (hv : bootBuiltins x = some v) (hn : x ≠ "__name__") (hg : env.globals = mainGlobals) (hb : env.builtins = builtinsNs) (hk : env.scope.kind = .function) (hx : env.kindOf x = some .globalImplicit) (hd : (x == ("__debug__" : Str)) = false) (h : Q v s) :
    wpAny M A (eval (.Name x pos) env) Q E s :=
  Name_function_global hk hx (loadGlobal_builtin (env := env) (by rw [hg]; exact T.g.keeps F.keep) (mg_none_of X T.g e) (by rw [hb]; exact T.b.keeps F.keep) ((T.builtins x hn).trans hv) h) hd
theorem nmK (F : Fr g L s.heap m) (X : K.In g) (T : Top p loose mean mg mb g) (e : nsIn K mainGlobals x = some (some v)) (hg : env.globals = mainGlobals) (hk : env.scope.kind = .function) (hx : env.kindOf x = some .globalImplicit) (hd : (x == ("__debug__" : Str)) = false) (h : Q v s) :
    wpAny M A (eval (.Name x pos) env) Q E s :=
  Name_function_global hk hx (loadGlobal_global (env := env) (by rw [hg]; exact T.g.keeps F.keep) (mg_of X T.g e) h) hd
theorem stL {Q : Unit → Shared → Prop} (F : Fr g L s.heap m) (N : News g L s.heap news) (hL : env.locals = L) (hk : env.scope.kind = .function) (hx : env.kindOf x = some .local)
    (h : ∀ h', Fr g L h' (fun y => if y = x then some v else m y) → News g L h' news → Q () { s with heap := h', toks := s.toks + 1 }) : wpAny M A (storeName env x v) Q E s := by
  subst hL
  exact wpAny_storeName_local hx F.ns (fun h' hn hs => h h' (F.set hn hs) (N.set hs)) (by rw [hk]; rfl)
theorem stLm {Q : Unit → Shared → Prop} (F : Fr g L s.heap m) (N : News g L s.heap news) (hL : env.locals = L) (hk : env.scope.kind = .function) (hx : env.kindOf x = some .local)
    (h : ∀ h', let m' : Str → Option Value := fun y => if y = x then some v else m y; Fr g L h' m' → News g L h' news → Q () { s with heap := h', toks := s.toks + 1 }) : wpAny M A (storeName env x v) Q E s := stL F N hL hk hx h
theorem stC {Q : Unit → Shared → Prop} {pre post : List (Addr × Obj)} {v₀ : Option Value} (F : Fr g L s.heap m) (N : News g L s.heap (pre ++ (c, o) :: post)) (hk : env.scope.kind = .function) (hx : env.kindOf x = some .cell) (hc : env.cells.lookup x = some c) (hd : o.data = .cell v₀)
    (h1 : ∀ p ∈ pre, p.1 ≠ c) (h2 : ∀ p ∈ post, p.1 ≠ c)
    (h : ∀ h' o', Fr g L h' m → News g L h' (pre ++ (c, o') :: post) → o'.data = .cell (some v) → Q () { s with heap := h' }) : wpAny M A (storeName env x v) Q E s := by
  have hmem := N (c, o) (List.mem_append_right _ (.head _))
  refine wpAny_storeName_cell hk hx hc ⟨o, hmem.1, hd⟩ fun h' hv hs => ?_
  obtain ⟨o', ho', hd'⟩ := hv
  refine h h' o' ⟨F.ns.sameBut hs (Ne.symm hmem.2.1), fun b ob e => (hs.2 b (fun q => ?_)).trans (F.keep b ob e), F.above⟩ (N.setAt h1 h2 hs ho') hd'
  rw [q, hmem.2.2] at e; cases e
end

theorem stU {M : Model} {A : Around} {E : Value → Shared → Prop} {s : Shared} {g : Heap} {L c : Addr} {m : Str → Option Value} {env : Env} {x : Str} {v : Value} {news : List (Addr × Obj)} {gg : Obj → List (Addr × Obj)} {o : Obj} {Q : Unit → Shared → Prop} {v₀ : Option Value}
    (F : Fr g L s.heap m) (N : News g L s.heap news) (U : UpdF c o news gg) (hk : env.scope.kind = .function) (hx : env.kindOf x = some .cell) (hc : env.cells.lookup x = some c) (hd : o.data = .cell v₀)
    (h : ∀ h' o', Fr g L h' m → News g L h' (gg o') → o'.data = .cell (some v) → Q () { s with heap := h' }) : wpAny M A (storeName env x v) Q E s := by
  obtain ⟨pre, post, rfl, hg, h1, h2⟩ := U.split
  exact stC F N hk hx hc hd h1 h2 fun h' o' F' N' d' => h h' o' F' (by rw [hg]; exact N') d'

/-- some names of a map written out -/
def ov (l : List (Str × Value)) (m : Str → Option Value) : Str → Option Value := fun y => match l.lookup y with | some v => some v | none => m y
theorem ov_eq {m : Str → Option Value} : ∀ {l : List (Str × Value)}, (∀ p ∈ l, m p.1 = some p.2) → ov l m = m
  | l, h => by
    funext y
    unfold ov
    cases e : l.lookup y with
    | none => rfl
    | some v => exact (h _ (mem_of_lookup e)).symm
theorem Fr.as {g h : Heap} {L : Addr} {m : Str → Option Value} (F : Fr g L h m) (l : List (Str × Value)) (hl : ∀ p ∈ l, m p.1 = some p.2) : Fr g L h (ov l m) := by rw [ov_eq hl]; exact F

theorem frGrow {g h h' : Heap} {L : Addr} {m : Str → Option Value} (F : Fr g L h m) (k : h.StaysIn h') : Fr g L h' m := by
  obtain ⟨⟨o, es, ep, ho, r⟩, kp, ab⟩ := F
  exact ⟨⟨o, es, ep, k _ _ ho, r⟩, fun b o e => k _ _ (kp b o e), ab⟩
theorem newsGrow {g h h' : Heap} {L : Addr} {news : List (Addr × Obj)} (N : News g L h news) (k : h.StaysIn h') : News g L h' news :=
  fun p hp => ⟨k _ _ (N p hp).1, (N p hp).2⟩
theorem onOf {g h : Heap} {L : Addr} {m : Str → Option Value} {news : List (Addr × Obj)} (F : Fr g L h m) (N : News g L h news) : On g h news :=
  ⟨F.keep, Nat.le_of_lt (Nat.lt_of_le_of_lt F.above F.ns.lt), fun p hp => ⟨(N p hp).1, (N p hp).2.2⟩⟩
theorem fnAt_keep {q : Addr} {g h : Heap} (x : FnAt q g) (k : ∀ b o, g.get? b = some o → h.get? b = some o) : FnAt q h := by
  obtain ⟨oc, od, fd, sl, e⟩ := x
  exact ⟨oc, od, fd, sl, k _ _ e⟩
theorem newsSub {g h : Heap} {L : Addr} {news news' : List (Addr × Obj)} (N : News g L h news) (hs : ∀ p ∈ news', p ∈ news) : News g L h news' := fun p hp => N p (hs p hp)

/-- a call: some objects of the ledger are handed over, the rest stand still -/
theorem codeOn {w : World} {A : Around} {g : Heap} {L : Addr} {m : Str → Option Value} {s : Shared} {news : List (Addr × Obj)} {c : Code} {R : Result → Shared → Prop}
    (F : Fr g L s.heap m) (N : News g L s.heap news) (used rest : List (Addr × Obj)) (hu : ∀ p ∈ used, p ∈ news) (hr : ∀ p ∈ rest, p ∈ news) (hd : ∀ p ∈ rest, ∀ q ∈ used, p.1 ≠ q.1)
    (hc : ∀ g', g.StaysIn g' → g.objs.size ≤ g'.objs.size → On g' s.heap used → (∀ p ∈ rest, g'.get? p.1 = some p.2) → (∀ b o, s.heap.get? b = some o → (∀ q ∈ used, b ≠ q.1) → g'.get? b = some o) →
      codeAny (model VW w) A c (fun r s' => Ex4 fun v h' tk used' => C4 (r = .ok (.ret v)) (s' = { s with heap := h', toks := tk }) (On g' h' used') ((Fr g L h' m → News g L h' (used' ++ rest) → R r s'))) s) :
    codeAny (model VW w) A c R s := by
  have hL : ∀ p ∈ used, p.1 ≠ L := fun p hp => (N p (hu p hp)).2.1
  have notin : ∀ b, (∀ q ∈ used, b ≠ q.1) → b ∉ used.map (·.1) := fun b hb q => by
    obtain ⟨p, hp, e⟩ := List.mem_map.mp q
    exact hb p hp e.symm
  have st : g.StaysIn (hideAll s.heap (used.map (·.1))) := fun b o e => hideAll_get _ (F.keep b o e) (notin b fun q hq h => by
    have := (N q (hu q hq)).2.2; rw [← h, e] at this; cases this)
  have keepH : ∀ b o, s.heap.get? b = some o → (∀ q ∈ used, b ≠ q.1) → (hideAll s.heap (used.map (·.1))).get? b = some o := fun b o e hb => hideAll_get _ e (notin b hb)
  refine (codeAny_mono (hc (hideAll s.heap (used.map (·.1))) st (by rw [hideAll_size]; exact Nat.le_of_lt (Nat.lt_of_le_of_lt F.above F.ns.lt)) ⟨fun b o e => of_hideAll _ e, Nat.le_of_eq (hideAll_size _ _), fun p hp => ⟨(N p (hu p hp)).1, hideAll_none _ (List.mem_map_of_mem hp)⟩⟩
    (fun p hp => keepH _ _ (N p (hr p hp)).1 (hd p hp)) keepH) ?_)
  rintro r s' ⟨v, h', tk, used', rfl, rfl, O', k⟩
  obtain ⟨oL, es, ep, hoL, rL⟩ := F.ns
  have hLg := keepH L oL hoL fun q hq e => hL q hq e.symm
  refine k ⟨⟨oL, es, ep, O'.keep _ _ hLg, rL⟩, fun b o e => O'.keep _ _ (st b o e), F.above⟩ fun p hp => ?_
  rcases List.mem_append.mp hp with hp | hp
  · refine ⟨(O'.nw p hp).1, fun e => ?_, ?_⟩
    · have := (O'.nw p hp).2; rw [e, hLg] at this; cases this
    · cases q : g.get? p.1 with
      | none => rfl
      | some o => have := (O'.nw p hp).2; rw [st _ _ q] at this; cases this
  · exact ⟨O'.keep _ _ (keepH _ _ (N p (hr p hp)).1 (hd p hp)), (N p (hr p hp)).2⟩

theorem callOn {w : World} {A : Around} {g : Heap} {L : Addr} {m : Str → Option Value} {s : Shared} {news : List (Addr × Obj)} {f : Value} {pos : List Value} {kw : List (Str × Value)} {Q E : Value → Shared → Prop}
    (F : Fr g L s.heap m) (N : News g L s.heap news) (used rest : List (Addr × Obj)) (hu : ∀ p ∈ used, p ∈ news) (hr : ∀ p ∈ rest, p ∈ news) (hd : ∀ p ∈ rest, ∀ q ∈ used, p.1 ≠ q.1)
    (hc : ∀ g', g.StaysIn g' → g.objs.size ≤ g'.objs.size → On g' s.heap used → (∀ p ∈ rest, g'.get? p.1 = some p.2) → (∀ b o, s.heap.get? b = some o → (∀ q ∈ used, b ≠ q.1) → g'.get? b = some o) →
      codeAny (model VW w) A (.call f ⟨pos, kw⟩) (fun r s' => Ex4 fun v h' tk used' => C4 (r = .ok (.ret v)) (s' = { s with heap := h', toks := tk }) (On g' h' used') ((Fr g L h' m → News g L h' (used' ++ rest) → Q v s'))) s) :
    wpAny (model VW w) A (call f pos kw) Q E s :=
  wpAny_call (codeOn F N used rest hu hr hd fun g' a b c d e => codeAny_mono (hc g' a b c d e) fun _ _ ⟨v, h', tk, used', e1, e2, e3, e4⟩ => ⟨v, h', tk, used', e1, e2, e3, fun F' N' => by rw [e1]; exact e4 F' N'⟩)

/-- list.insert at a place of the list -/
theorem insertOn {w : World} {A : Around} {E : Value → Shared → Prop} {g : Heap} {L : Addr} {m : Str → Option Value} {s : Shared} {pre post : List (Addr × Obj)} {l : Addr} {items : List Value} {c r : Nat} {x : Value} {t : Tok} {Q : Value → Shared → Prop}
    (Fx : Fr g L s.heap m) (N : News g L s.heap (pre ++ (l, listOf items.toArray c) :: post)) (h1 : ∀ p ∈ pre, p.1 ≠ l) (h2 : ∀ p ∈ post, p.1 ≠ l) (hr : r ≤ items.length) (hsz : items.length ≤ 100000)
    (h : ∀ h', Fr g L h' m → News g L h' (pre ++ (l, listOf (items.take r ++ x :: items.drop r).toArray (c + 1)) :: post) → Q .none { s with heap := h' }) :
    wpAny (model VW w) A (call (.builtin "list.insert") [.ref l, .int r t, x]) Q E s := by
  have ho := (N (l, listOf items.toArray c) (List.mem_append_right _ (.head _))).1
  have hz : items.toArray.size ≤ sizeLine := by rw [sizeLine_eq]; simp; omega
  have fits : Builtin.List.listFitsIndex (r : Int) = true := by unfold Builtin.List.listFitsIndex; exact Bool.and_eq_true_iff.mpr ⟨decide_eq_true (by omega), decide_eq_true (by omega)⟩
  generalize hzr : (r : Int) = z at fits ⊢
  refine call_meets PySem.F.slot_list_insert ⟨_, ho, rfl⟩ PySem.F.entry_list_insert (PySem.F.args_list_insert_3 _ _ _) (PySem.AutoListH.list_insert_list_int_val_1 l items.toArray c z t x (by rw [fits]; decide) hz) ⟨ho, ?_⟩
  refine h _ (Fx.change (Heap.SameBut.update ..) (N _ (List.mem_append_right _ (.head _))).2.1 (N _ (List.mem_append_right _ (.head _))).2.2) (kl_turn _ N h1 h2 ?_ ?_)
  · subst hzr
    dsimp only
    rw [if_neg (by omega)]
    have e1 : min (r : Int).toNat items.toArray.size = r := by rw [Int.toNat_natCast, List.size_toArray]; omega
    rw [e1]
    apply Array.toList_inj.mp
    simp
    exact List.take_of_length_le (by simp)
  · simp; omega
/-- a made object that stands in the ground -/
theorem instG {g h : Heap} {x C d : Addr} {od : Obj} (h1 : g.get? x = some (instObj C d)) (h2 : g.get? d = some od) (k : ∀ b o, g.get? b = some o → h.get? b = some o) : InstAt h x (instObj C d) C (some od) :=
  ⟨k _ _ h1, rfl, rfl, k _ _ h2⟩
theorem instGL {g h : Heap} {L x C d : Addr} {od : Obj} {m : Str → Option Value} {news : List (Addr × Obj)} (h1 : g.get? x = some (instObj C d)) (F : Fr g L h m) (N : News g L h news) (hm : (d, od) ∈ news) : InstAt h x (instObj C d) C (some od) :=
  ⟨F.keep _ _ h1, rfl, rfl, (N _ hm).1⟩
/-- the key's calls: at each item the value that Kv tells -/
def KeyC (w : World) (g : Heap) (fl : Addr) (items : Array Value) (Kv : Nat → Value → Heap → Prop) : Prop :=
  ∀ (A : Around) (s : Shared) (R : Result → Shared → Prop) (i : Nat) (v : Value), items[i]? = some v → g.StaysIn s.heap → g.objs.size ≤ s.heap.objs.size → A.depth + 3 < recursionLimit → A.units + 30 < cLine → A.handled = none →
    (∀ v' h' tk', s.heap.StaysIn h' → Kv i v' h' → R (.ok (.ret v')) { s with heap := h', toks := tk' }) →
    codeAny (model VW w) A (.call (.ref fl) ⟨[v], []⟩) R s
end Mine
namespace Mine
open PySem PySem.W PyProof.Rows PySem.Calls
/-- a tree of asks, answered by numbers; none where an ask is out of range -/
def kRun (l : List Nat) {α : Type} : KasT α → Option α
  | .ret a => some a
  | .ask i j k => if i < l.length ∧ j < l.length then kRun l (k (decide (l.getD i 0 < l.getD j 0))) else none
def insAll (a : Nat) : List Nat → List (List Nat)
  | [] => [[a]]
  | b :: l => (a :: b :: l) :: (insAll a l).map (b :: ·)
def permsL : List Nat → List (List Nat)
  | [] => [[]]
  | a :: l => (permsL l).flatMap (insAll a)
def chk (n : Nat) (l : List Nat) : Bool := match kRun l (kas_sort n) with
  | some p => p.toList.map (fun i => l.getD i 9) == List.range n
  | none => false
theorem chk5 : (permsL (List.range 5)).all (chk 5) = true := by decide +kernel
theorem chk6 : (permsL (List.range 6)).all (chk 6) = true := by decide +kernel
end Mine
namespace Mine
open PySem PySem.W PyProof.Rows PySem.Calls
def ForStep (g : Heap) (L I : Addr) (oI : Obj) (Jn : (Str → Option Value) → List (Addr × Obj) → Prop) (s : Shared) (Q : Flow → Shared → Prop) (f : Flow) (s₃ : Shared) : Prop :=
  match f with
  | .next | .cont => Ex4 fun h' tk m₂ news₂ => C5 (s₃ = { s with heap := h', toks := tk }) (Fr g L h' m₂) (News g L h' ((I, oI) :: news₂)) ((∀ p ∈ news₂, p.1 ≠ I)) (Jn m₂ news₂)
  | .brk => Q .next s₃
  | .ret v => Q (.ret v) s₃

section
variable {w : World} {A : Around} {g : Heap} {L I : Addr} {fp : List Addr} {n : Nat} {P : Nat → Value → Prop} {St : Nat → Heap → Prop} {m : Str → Option Value} {news frz : List (Addr × Obj)} {env : Env} {x : Str} {px pos : Pos}
  {body : List Stmt} {s : Shared} {Q : Flow → Shared → Prop} {iter : Expr}

theorem forW (W : Walks VW w A I fp [I] n P St) (hI : g.get? I = none) (hL : env.locals = L) (hIL : I ≠ L)
    (J : Nat → (Str → Option Value) → List (Addr × Obj) → Prop)
    (hfp : ∀ b ∈ fp, b ≠ I → (∃ o, g.get? b = some o) ∨ ∃ o, (b, o) ∈ frz)
    (hfz : ∀ i m₁ news₁, J i m₁ news₁ → ∀ q ∈ frz, q ∈ news₁)
    (live : ∀ i h, St i h → ∃ o, h.get? I = some o)
    (F : Fr g L s.heap m) (N : News g L s.heap news) (hnI : ∀ p ∈ news, p.1 ≠ I) (hst : St 0 s.heap) (hJ : J 0 m news)
    (turn : ∀ i v m₁ news₁ oI h tk, i < n → P i v → J i m₁ news₁ → (∀ p ∈ news₁, p.1 ≠ I) → Fr g L h m₁ → News g L h ((I, oI) :: news₁) →
      wpAny (model VW w) A (storeName env x v) (fun _ s₂ => wpAny (model VW w) A (execs body env) (ForStep g L I oI (J (i + 1)) s Q) (fun _ _ => False) s₂) (fun _ _ => False) { s with heap := h, toks := tk })
    (done : ∀ m₁ news₁ h tk, J n m₁ news₁ → Fr g L h m₁ → News g L h news₁ → Q .next { s with heap := h, toks := tk }) :
    codeAny (model VW w) A (.forLoop (.Name x px) (.ref I) body [] env) (fun r s' => match r with | .ok f => Q f s' | .error e => cameBackBy (model VW w) A env (fun _ _ => False) e s') s := by
  subst hL
  refine codeAny_forLoop
    (fun k s' => Ex5 fun h' tk m' news' i => C8 (s' = { s with heap := h', toks := tk }) (St i h') (Fr g env.locals h' m') (News g env.locals h' news') ((∀ p ∈ news', p.1 ≠ I)) (J i m' news') (i ≤ n) (k = n + 1 - i)) ?_ (n + 1)
    ⟨s.heap, s.toks, m, news, 0, rfl, hst, F, N, hnI, hJ, Nat.zero_le _, rfl⟩
  rintro k s' ⟨h', tk, m', news', i, rfl, hst', F', N', hnI', hJ', hi, rfl⟩
  have nxt : ∀ h₁ : Heap, (∀ b o, b ∉ [I] → h'.get? b = some o → h₁.get? b = some o) → Fr g env.locals h₁ m' ∧ News g env.locals h₁ news' := fun h₁ hk₁ =>
    ⟨⟨F'.ns.at' fun o e => hk₁ _ o (fun q => hIL (List.mem_singleton.mp q).symm) e, fun b o e => hk₁ b o (fun q => by rw [List.mem_singleton.mp q, hI] at e; cases e) (F'.keep b o e), F'.above⟩,
      fun p hp => ⟨hk₁ _ _ (fun q => hnI' p hp (List.mem_singleton.mp q)) (N' p hp).1, (N' p hp).2⟩⟩
  by_cases hlt : i < n
  · refine W.item i _ _ _ hlt hst' fun v h₁ tk₁ hP hst₁ hk₁ => ?_
    obtain ⟨F₁, N₁⟩ := nxt h₁ hk₁
    obtain ⟨oI, hoI⟩ := live _ _ hst₁
    have N₂' : News g env.locals h₁ ((I, oI) :: news') := fun p hp => by
      rcases List.mem_cons.mp hp with rfl | hp
      · exact ⟨hoI, hIL, hI⟩
      · exact N₁ p hp
    refine wpAny_assign_Name (wpAny_mono (turn i v m' news' oI h₁ _ hlt hP hJ' hnI' F₁ N₂') (fun _ s₂ h₂ => wpAny_mono h₂ (fun f s₃ h₃ => ?_) fun _ _ e => e.elim) fun _ _ e => e.elim)
    have fin : (Ex4 fun h' tk m₂ news₂ => C5 (s₃ = { s with heap := h', toks := tk }) (Fr g env.locals h' m₂) (News g env.locals h' ((I, oI) :: news₂)) ((∀ p ∈ news₂, p.1 ≠ I)) (J (i + 1) m₂ news₂)) →
        ∃ m, m < n + 1 - i ∧ Ex5 fun h' tk m' news' i => C8 (s₃ = { s with heap := h', toks := tk }) (St i h') (Fr g env.locals h' m') (News g env.locals h' news') ((∀ p ∈ news', p.1 ≠ I)) (J i m' news') (i ≤ n) (m = n + 1 - i):= by
      rintro ⟨h₄, tk₄, m₄, news₄, rfl, F₄, N₄, hn₄, hJ₄⟩
      refine ⟨n + 1 - (i + 1), by omega, h₄, tk₄, m₄, news₄, i + 1, rfl, ?_, F₄, fun p hp => N₄ p (.tail _ hp), hn₄, hJ₄, hlt, rfl⟩
      refine W.frame _ _ _ hst₁ fun b hb o e => ?_
      by_cases hbI : b = I
      · subst hbI
        rw [hoI] at e; cases e
        exact (N₄ _ (.head _)).1
      · rcases hfp b hb hbI with ⟨o', hg⟩ | ⟨o', hz⟩
        · have : o' = o := Option.some.inj ((F₁.keep b o' hg).symm.trans e)
          exact this ▸ F₄.keep b o' hg
        · have e1 := (N₁ _ (hfz _ _ _ hJ' _ hz)).1
          have : o' = o := Option.some.inj (e1.symm.trans e)
          exact this ▸ (N₄ _ (.tail _ (hfz _ _ _ hJ₄ _ hz))).1
    cases f with
    | next => exact fin h₃
    | cont => exact fin h₃
    | brk => exact h₃
    | ret v => exact h₃
  · have hin : i = n := by omega
    subst hin
    refine W.done _ _ _ hst' fun h₁ tk₁ hk₁ => wpAny_execs_nil ?_
    obtain ⟨F₁, N₁⟩ := nxt h₁ hk₁
    exact done m' news' h₁ tk₁ hJ' F₁ N₁

/-- the rest of a for, its source being a list -/
theorem forList {l : Addr} {items : Array Value} (hl : s.heap.IsList l items) (hlg : (∃ o, g.get? l = some o) ∨ ∃ o, (l, o) ∈ frz) (hh : A.handled = none) (hL : env.locals = L)
    (J : Nat → (Str → Option Value) → List (Addr × Obj) → Prop)
    (hfz : ∀ i m₁ news₁, J i m₁ news₁ → ∀ q ∈ frz, q ∈ news₁)
    (F : Fr g L s.heap m) (N : News g L s.heap news) (hJ : J 0 m news)
    (turn : ∀ I oI i v m₁ news₁ h tk, i < items.size → items[i]? = some v → J i m₁ news₁ → (∀ p ∈ news₁, p.1 ≠ I) → Fr g L h m₁ → News g L h ((I, oI) :: news₁) →
      wpAny (model VW w) A (storeName env x v) (fun _ s₂ => wpAny (model VW w) A (execs body env) (ForStep g L I oI (J (i + 1)) s Q) (fun _ _ => False) s₂) (fun _ _ => False) { s with heap := h, toks := tk })
    (done : ∀ m₁ news₁ h tk, J items.size m₁ news₁ → Fr g L h m₁ → News g L h news₁ → Q .next { s with heap := h, toks := tk }) :
    wpAny (model VW w) A (pyIter (.ref l)) (fun it s₂ => codeAny (model VW w) A (.forLoop (.Name x px) it body [] env) (fun r s' => match r with | .ok f => Q f s' | .error e => cameBackBy (model VW w) A env (fun _ _ => False) e s') s₂) (fun _ _ => False) s := by
  refine wpAny_pyIter_list hl ?_
  obtain ⟨ol, hol, _⟩ := id hl
  have hne : l ≠ s.heap.objs.size := Nat.ne_of_lt (Heap.lt_size hol)
  have hIg : g.get? s.heap.objs.size = none := by
    cases e : g.get? s.heap.objs.size with
    | none => rfl
    | some o => exact absurd (Heap.lt_size (F.keep _ _ e)) (Nat.lt_irrefl _)
  have hIL : s.heap.objs.size ≠ L := Nat.ne_of_gt F.ns.lt
  refine forW (frz := frz) (Walks.list hh s.heap.objs.size l hne items) hIg hL hIL J (fun b hb hbI => ?_) hfz (fun i h st => let ⟨o, ho, _⟩ := st.1; ⟨o, ho⟩) (F.push _) (fun p hp => ⟨Heap.get?_push_of_some _ (N p hp).1, (N p hp).2⟩)
    (fun p hp e => absurd (Heap.lt_size (N p hp).1) (by rw [e]; exact Nat.lt_irrefl _)) ⟨⟨_, Heap.get?_push_size _ rfl, rfl, rfl⟩, hl.at fun o e => Heap.get?_push_of_some _ e⟩ hJ
    (fun i v m₁ news₁ oI h tk hi hP hJ₁ hn₁ F₁ N₁ => ?_) done
  · rcases List.mem_cons.mp hb with e | hb
    · exact absurd e hbI
    · rw [List.mem_singleton.mp hb]; exact hlg
  · exact turn _ oI i v m₁ news₁ h tk hi hP hJ₁ hn₁ F₁ N₁

theorem for_ (h : wpAny (model VW w) A (eval iter env) (fun xv s₁ => wpAny (model VW w) A (pyIter xv) (fun it s₂ => codeAny (model VW w) A (.forLoop (.Name x px) it body [] env) (fun r s' => match r with | .ok f => Q f s' | .error e => cameBackBy (model VW w) A env (fun _ _ => False) e s') s₂) (fun _ _ => False) s₁) (fun _ _ => False) s)
    (hs : ∀ x, foldedSetIterable iter env x = pure x := by intro _; rfl) :
    wpAny (model VW w) A (exec (.For (.Name x px) iter body [] pos) env) Q (fun _ _ => False) s := wpAny_For h hs

/-- the same, its source a range by ones -/
theorem forRange {r : Addr} {a b : Int} {t u v : Tok} (hr : IsRange s.heap r a b 1 t u v) (ha : -1000000 < a) (hab : a ≤ b) (hb : b < 1000000) (hh : A.handled = none) (hL : env.locals = L)
    (J : Nat → (Str → Option Value) → List (Addr × Obj) → Prop)
    (F : Fr g L s.heap m) (N : News g L s.heap news) (hJ : J 0 m news)
    (turn : ∀ I oI i tv m₁ news₁ h tk, (a + (i : Nat) < b) → J i m₁ news₁ → (∀ p ∈ news₁, p.1 ≠ I) → Fr g L h m₁ → News g L h ((I, oI) :: news₁) →
      wpAny (model VW w) A (storeName env x (.int (a + (i : Nat)) tv)) (fun _ s₂ => wpAny (model VW w) A (execs body env) (ForStep g L I oI (J (i + 1)) s Q) (fun _ _ => False) s₂) (fun _ _ => False) { s with heap := h, toks := tk })
    (done : ∀ m₁ news₁ h tk, J (b - a).toNat m₁ news₁ → Fr g L h m₁ → News g L h news₁ → Q .next { s with heap := h, toks := tk }) :
    wpAny (model VW w) A (pyIter (.ref r)) (fun it s₂ => codeAny (model VW w) A (.forLoop (.Name x px) it body [] env) (fun r s' => match r with | .ok f => Q f s' | .error e => cameBackBy (model VW w) A env (fun _ _ => False) e s') s₂) (fun _ _ => False) s := by
  have hIg : g.get? s.heap.objs.size = none := by
    cases e : g.get? s.heap.objs.size with
    | none => rfl
    | some o => exact absurd (Heap.lt_size (F.keep _ _ e)) (Nat.lt_irrefl _)
  have hIL : s.heap.objs.size ≠ L := Nat.ne_of_gt F.ns.lt
  refine wpAny_pyIter_range hr (small_one (by omega) (by omega) (by omega) (by omega)) ?_
  rw [rangeSize_nat]
  refine forW (frz := []) (Walks.range hh s.heap.objs.size a 1 (b - a).toNat) hIg hL hIL J (fun b hb hbI => absurd (List.mem_singleton.mp hb) hbI) (fun _ _ _ _ _ h => nomatch h) (fun i h st => ⟨_, st⟩) (F.push _) (fun p hp => ⟨Heap.get?_push_of_some _ (N p hp).1, (N p hp).2⟩)
    (fun p hp e => absurd (Heap.lt_size (N p hp).1) (by rw [e]; exact Nat.lt_irrefl _)) ?_ hJ
    (fun i v m₁ news₁ oI h tk hi hP hJ₁ hn₁ F₁ N₁ => ?_) done
  · have := Heap.get?_push_size s.heap (o := { cls := .type "range_iterator", data := .fields #[rawInt a, rawInt ((b - a).toNat : Nat), rawInt 1] }) rfl
    simpa using this
  · obtain ⟨t', rfl⟩ := hP
    rw [Int.mul_one]
    exact turn _ oI i t' m₁ news₁ h tk (by omega) hJ₁ hn₁ F₁ N₁

theorem freshG {g h : Heap} {L : Addr} {m : Str → Option Value} (F : Fr g L h m) : g.get? h.objs.size = none := by
  cases e : g.get? h.objs.size with
  | none => rfl
  | some o => exact absurd (Heap.lt_size (F.keep _ _ e)) (Nat.lt_irrefl _)

/-- the same, its source a text -/
theorem forStr {x₀ : Str} {t : Tok} (hh : A.handled = none) (hL : env.locals = L)
    (J : Nat → (Str → Option Value) → List (Addr × Obj) → Prop)
    (F : Fr g L s.heap m) (N : News g L s.heap news) (hJ : J 0 m news)
    (turn : ∀ I oI i v m₁ news₁ h tk, i < x₀.cps.size → SignAt x₀ i v → J i m₁ news₁ → (∀ p ∈ news₁, p.1 ≠ I) → Fr g L h m₁ → News g L h ((I, oI) :: news₁) →
      wpAny (model VW w) A (storeName env x v) (fun _ s₂ => wpAny (model VW w) A (execs body env) (ForStep g L I oI (J (i + 1)) s Q) (fun _ _ => False) s₂) (fun _ _ => False) { s with heap := h, toks := tk })
    (done : ∀ m₁ news₁ h tk, J x₀.cps.size m₁ news₁ → Fr g L h m₁ → News g L h news₁ → Q .next { s with heap := h, toks := tk }) :
    wpAny (model VW w) A (pyIter (.str x₀ t)) (fun it s₂ => codeAny (model VW w) A (.forLoop (.Name x px) it body [] env) (fun r s' => match r with | .ok f => Q f s' | .error e => cameBackBy (model VW w) A env (fun _ _ => False) e s') s₂) (fun _ _ => False) s := by
  have hIL : s.heap.objs.size ≠ L := Nat.ne_of_gt F.ns.lt
  have key : ∀ (o : Obj) (St : Nat → Heap → Prop), Walks VW w A s.heap.objs.size [s.heap.objs.size] [s.heap.objs.size] x₀.cps.size (SignAt x₀) St → St 0 (s.heap.push o) → (∀ i h, St i h → ∃ o, h.get? s.heap.objs.size = some o) →
      codeAny (model VW w) A (.forLoop (.Name x px) (.ref s.heap.objs.size) body [] env) (fun r s' => match r with | .ok f => Q f s' | .error e => cameBackBy (model VW w) A env (fun _ _ => False) e s') { s with heap := s.heap.push o } := by
    intro o St W st0 live
    exact forW (frz := []) W (freshG F) hL hIL J (fun b hb hbI => absurd (List.mem_singleton.mp hb) hbI) (fun _ _ _ _ _ h => nomatch h) live (F.push _) (fun p hp => ⟨Heap.get?_push_of_some _ (N p hp).1, (N p hp).2⟩)
      (fun p hp e => absurd (Heap.lt_size (N p hp).1) (by rw [e]; exact Nat.lt_irrefl _)) st0 hJ
      (fun i v m₁ news₁ oI h tk hi hP hJ₁ hn₁ F₁ N₁ => turn _ oI i v m₁ news₁ h tk hi hP hJ₁ hn₁ F₁ N₁) done
  cases ha : x₀.cps.all (· < 128)
  · exact wpAny_pyIter_wide ha (key _ _ (Walks.strWide hh _ x₀ t) ⟨_, Heap.get?_push_size _ rfl, rfl, rfl⟩ fun i h st => let ⟨o, ho, _⟩ := st; ⟨o, ho⟩)
  · exact wpAny_pyIter_ascii ha (key _ _ (Walks.strAscii hh _ x₀ t) ⟨_, Heap.get?_push_size _ rfl, rfl, rfl⟩ fun i h st => let ⟨o, ho, _⟩ := st; ⟨o, ho⟩)
end
end Mine
namespace Mine
open PySem PySem.W PyProof.Rows PySem.Calls
abbrev cellObj (v : Option Value) : Obj := { cls := .type "cell", data := .cell v }
/-- the cells that a block lays, as a ledger -/
def cellNews : Addr → List (Str × NameKind) → List (Addr × Obj)
  | _, [] => []
  | a, (_, k) :: r => if k == .cell then (a, cellObj none) :: cellNews (a + 1) r else cellNews a r
theorem cellNews_ge : ∀ (names : List (Str × NameKind)) (a : Addr), ∀ p ∈ cellNews a names, a ≤ p.1
  | [], _, _, h => nomatch h
  | (_, k) :: r, a, p, h => by
    unfold cellNews at h
    split at h
    · rcases List.mem_cons.mp h with rfl | h
      · exact Nat.le_refl _
      · exact Nat.le_of_succ_le (cellNews_ge r (a + 1) p h)
    · exact cellNews_ge r a p h
theorem cellNews_get : ∀ (names : List (Str × NameKind)) (h : Heap), ∀ p ∈ cellNews h.objs.size names, (pushCells h names).get? p.1 = some p.2
  | [], _, _, hp => nomatch hp
  | (_, k) :: r, h, p, hp => by
    unfold cellNews at hp
    unfold pushCells
    split at hp
    · rename_i hk
      rw [if_pos hk]
      rcases List.mem_cons.mp hp with rfl | hp
      · exact pushCells_keeps _ _ _ _ (Heap.get?_push_size _ rfl)
      · exact cellNews_get r _ p (by rw [Heap.size_push]; exact hp)
    · rename_i hk
      rw [if_neg hk]
      exact cellNews_get r h p hp

def tests (ifs : List Expr) (env : Env) : Sem Bool := forIn ifs true fun c r => if r = true then do let ok ← isTrue c env (eval c env); pure (ForInStep.yield ok) else pure (ForInStep.yield r)
def CompStep (g : Heap) (C D I L : Addr) (oD oI oL : Obj) (Jn : (Str → Option Value) → List (Addr × Obj) → Prop) (s s' : Shared) : Prop :=
  Ex4 fun h' tk mc₂ nw₂ => C5 (s' = { s with heap := h', toks := tk }) (Fr g C h' mc₂) (News g C h' ((D, oD) :: (I, oI) :: (L, oL) :: nw₂)) ((∀ p ∈ nw₂, p.1 ≠ I ∧ p.1 ≠ D ∧ p.1 ≠ L)) (Jn mc₂ nw₂)

section
variable {w : World} {A : Around} {g : Heap} {L I C D : Nat} {oL : Obj} {fp : List Addr} {n : Nat} {P : Nat → Value → Prop} {St : Nat → Heap → Prop} {m mc : Str → Option Value} {news nw frz : List (Addr × Obj)} {env cenv : Env} {x : Str} {px pos : Pos}
  {s : Shared} {iter elt : Expr} {ifs : List Expr} {scope : Scope} {R : Result → Shared → Prop} {Q : Value → Shared → Prop} {cl : List (Str × Addr)}

theorem compCore (W : Walks VW w A I fp [I] n P St) (hn : n ≤ sizeLine) (hI : g.get? I = none) (hDI : D ≠ I) (hCI : C ≠ I) (hLI : L ≠ I) (hDL : D ≠ L)
    (J : Nat → List Value → (Str → Option Value) → List (Addr × Obj) → Prop)
    (hfp : ∀ b ∈ fp, b ≠ I → (∃ o, g.get? b = some o) ∨ ∃ o, (b, o) ∈ frz)
    (hfz : ∀ i ys m₁ news₁, J i ys m₁ news₁ → ∀ q ∈ frz, q ∈ news₁)
    (live : ∀ i h, St i h → ∃ o, h.get? I = some o)
    (F : Fr g C s.heap mc) (N : News g C s.heap ((D, listOf #[] 0) :: (L, oL) :: nw)) (hap : ∀ p ∈ nw, p.1 ≠ I ∧ p.1 ≠ D ∧ p.1 ≠ L) (hst : St 0 s.heap) (hJ : J 0 [] mc nw)
    (turn : ∀ i v ys cc mc₁ nw₁ oI h tk, i < n → P i v → J i ys mc₁ nw₁ → (∀ p ∈ nw₁, p.1 ≠ I ∧ p.1 ≠ D ∧ p.1 ≠ L) → Fr g C h mc₁ → News g C h ((D, listOf ys.toArray cc) :: (I, oI) :: (L, oL) :: nw₁) →
      wpAny (model VW w) A (storeName cenv x v) (fun _ s₂ => wpAny (model VW w) A (tests ifs cenv) (fun ok s₃ =>
        if ok = true then wpAny (model VW w) A (eval elt cenv) (fun y s₄ => CompStep g C D I L (listOf ys.toArray cc) oI oL (J (i + 1) (ys ++ [y])) s s₄) (fun _ _ => False) s₃
        else CompStep g C D I L (listOf ys.toArray cc) oI oL (J (i + 1) ys) s s₃) (fun _ _ => False) s₂) (fun _ _ => False) { s with heap := h, toks := tk })
    (done : ∀ ys cc mc₁ nw₁ h tk, J n ys mc₁ nw₁ → (∀ p ∈ nw₁, p.1 ≠ I ∧ p.1 ≠ D ∧ p.1 ≠ L) → Fr g C h mc₁ → News g C h ((D, listOf ys.toArray cc) :: (L, oL) :: nw₁) → R (.ok .next) { s with heap := h, toks := tk }) :
    codeAny (model VW w) A (.compLoop (.ListComp elt [⟨.Name x px, iter, ifs, 0⟩] scope pos) 0 (.ref I) (.ref D) cenv) R s := by
  refine codeAny_compLoop_tests
    (fun k s' => Ex7 fun h' tk mc' nw' ys cc i => C9 (s' = { s with heap := h', toks := tk }) (St i h') (Fr g C h' mc') (News g C h' ((D, listOf ys.toArray cc) :: (L, oL) :: nw')) ((∀ p ∈ nw', p.1 ≠ I ∧ p.1 ≠ D ∧ p.1 ≠ L)) (J i ys mc' nw') (ys.length ≤ i) (i ≤ n) (k = n + 1 - i)) ?_ (n + 1)
    ⟨s.heap, s.toks, mc, nw, [], 0, 0, rfl, hst, F, N, hap, hJ, Nat.le_refl _, Nat.zero_le _, rfl⟩
  rintro k s' ⟨h', tk, mc', nw', ys, cc, i, rfl, hst', F', N', hap', hJ', hys, hi, rfl⟩
  have nxt : ∀ h₁ : Heap, (∀ b o, b ∉ [I] → h'.get? b = some o → h₁.get? b = some o) → Fr g C h₁ mc' ∧ News g C h₁ ((D, listOf ys.toArray cc) :: (L, oL) :: nw') := fun h₁ hk₁ =>
    ⟨⟨F'.ns.at' fun o e => hk₁ _ o (fun q => hCI (List.mem_singleton.mp q)) e, fun b o e => hk₁ b o (fun q => by rw [List.mem_singleton.mp q, hI] at e; cases e) (F'.keep b o e), F'.above⟩,
      fun p hp => ⟨hk₁ _ _ (fun q => by
        have q := List.mem_singleton.mp q
        rcases List.mem_cons.mp hp with rfl | hp
        · exact hDI q
        · rcases List.mem_cons.mp hp with rfl | hp
          · exact hLI q
          · exact (hap' p hp).1 q) (N' p hp).1, (N' p hp).2⟩⟩
  by_cases hlt : i < n
  · refine W.item i _ _ _ hlt hst' fun v h₁ tk₁ hP hst₁ hk₁ => ?_
    obtain ⟨F₁, N₁⟩ := nxt h₁ hk₁
    obtain ⟨oI, hoI⟩ := live _ _ hst₁
    have N₂ : News g C h₁ ((D, listOf ys.toArray cc) :: (I, oI) :: (L, oL) :: nw') := fun p hp => by
      rcases List.mem_cons.mp hp with rfl | hp
      · exact N₁ _ (.head _)
      · rcases List.mem_cons.mp hp with rfl | hp
        · exact ⟨hoI, Ne.symm hCI, hI⟩
        · exact N₁ p (.tail _ hp)
    -- the state behind a turn gives the invariant
    have fin : ∀ (h₄ : Heap) (tk₄ : Nat) (mc₄ : Str → Option Value) (nw₄ : List (Addr × Obj)) (zs : List Value) (c₄ : Nat), zs.length ≤ i + 1 → Fr g C h₄ mc₄ → News g C h₄ ((D, listOf zs.toArray c₄) :: (I, oI) :: (L, oL) :: nw₄) → (∀ p ∈ nw₄, p.1 ≠ I ∧ p.1 ≠ D ∧ p.1 ≠ L) → J (i + 1) zs mc₄ nw₄ →
        ∃ k, k < n + 1 - i ∧ Ex7 fun h' tk mc' nw' ys cc i => C9 (({ s with heap := h₄, toks := tk₄ } : Shared) = { s with heap := h', toks := tk }) (St i h') (Fr g C h' mc') (News g C h' ((D, listOf ys.toArray cc) :: (L, oL) :: nw')) ((∀ p ∈ nw', p.1 ≠ I ∧ p.1 ≠ D ∧ p.1 ≠ L)) (J i ys mc' nw') (ys.length ≤ i) (i ≤ n) (k = n + 1 - i):= by
      intro h₄ tk₄ mc₄ nw₄ zs c₄ hz F₄ N₄ ap₄ hJ₄
      refine ⟨n + 1 - (i + 1), by omega, h₄, tk₄, mc₄, nw₄, zs, c₄, i + 1, rfl, ?_, F₄, fun p hp => ?_, ap₄, hJ₄, hz, hlt, rfl⟩
      · refine W.frame _ _ _ hst₁ fun b hb o e => ?_
        by_cases hbI : b = I
        · subst hbI
          rw [hoI] at e; cases e
          exact (N₄ _ (.tail _ (.head _))).1
        · rcases hfp b hb hbI with ⟨o', hg⟩ | ⟨o', hz'⟩
          · have : o' = o := Option.some.inj ((F₁.keep b o' hg).symm.trans e)
            exact this ▸ F₄.keep b o' hg
          · have e1 := (N₁ _ (.tail _ (.tail _ (hfz _ _ _ _ hJ' _ hz')))).1
            have : o' = o := Option.some.inj (e1.symm.trans e)
            exact this ▸ (N₄ _ (.tail _ (.tail _ (.tail _ (hfz _ _ _ _ hJ₄ _ hz'))))).1
      · rcases List.mem_cons.mp hp with rfl | hp
        · exact N₄ _ (.head _)
        · exact N₄ p (.tail _ (.tail _ hp))
    refine wpAny_assign_Name (wpAny_mono (turn i v ys cc mc' nw' oI h₁ _ hlt hP hJ' hap' F₁ N₂) (fun _ s₂ h₂ => wpAny_mono h₂ (fun ok s₃ h₃ => ?_) fun _ _ e => e.elim) fun _ _ e => e.elim)
    cases ok with
    | false =>
      simp only [Bool.false_eq_true, if_false] at h₃ ⊢
      obtain ⟨h₄, tk₄, mc₄, nw₄, rfl, F₄, N₄, ap₄, hJ₄⟩ := h₃
      exact fin h₄ tk₄ mc₄ nw₄ ys cc (by omega) F₄ N₄ ap₄ hJ₄
    | true =>
      simp only [if_true] at h₃ ⊢
      refine wpAny_mono h₃ (fun y s₄ h₄ => ?_) fun _ _ e => e.elim
      obtain ⟨h₄, tk₄, mc₄, nw₄, rfl, F₄, N₄, ap₄, hJ₄⟩ := h₄
      refine wpAny_list_append_plain (hsz := by simp; omega) ⟨cc, (N₄ _ (.head _)).1⟩ fun h₅ hl₅ hs₅ => ?_
      obtain ⟨c₅, hl₅⟩ := hl₅
      have hg₅ := (N₄ _ (.head _)).2
      refine fin h₅ tk₄ mc₄ nw₄ (ys ++ [y]) c₅ (by simp; omega) ⟨F₄.ns.at' fun o e => (hs₅.2 _ (Ne.symm hg₅.1)).trans e, fun b o e => (hs₅.2 b fun q => by rw [q] at e; rw [hg₅.2] at e; cases e).trans (F₄.keep b o e), F₄.above⟩ (fun p hp => ?_) ap₄ hJ₄
      rcases List.mem_cons.mp hp with rfl | hp
      · refine ⟨?_, hg₅⟩
        rw [hl₅]; simp
      · have ne : p.1 ≠ D := by
          rcases List.mem_cons.mp hp with rfl | hp
          · exact Ne.symm hDI
          · rcases List.mem_cons.mp hp with rfl | hp
            · exact Ne.symm hDL
            · exact (ap₄ p hp).2.1
        exact ⟨(hs₅.2 _ ne).trans (N₄ p (.tail _ hp)).1, (N₄ p (.tail _ hp)).2⟩
  · have hin : i = n := by omega
    subst hin
    refine W.done _ _ _ hst' fun h₁ tk₁ hk₁ => ?_
    obtain ⟨F₁, N₁⟩ := nxt h₁ hk₁
    exact done ys cc mc' nw' h₁ tk₁ hJ' hap' F₁ N₁

def CompRest (w : World) (A : Around) (env : Env) (scope : Scope) (cl : List (Str × Addr)) (e : Expr) (Q : Value → Shared → Prop) (it : Value) (s₂ : Shared) : Prop :=
  wpAny (model VW w) A (newList []) (fun acc s₃ =>
      wpAny (model VW w) A (newFunctionEnv scope env.globals cl [] env.qual none .none (some env)) (fun cenv s₄ =>
        codeAny (model VW w) A (.compStart e 0 it acc { cenv with scope := relabel scope env }) (compPost (model VW w) A (fun _ _ => False) none Q acc cenv.locals) s₄) (fun _ _ => False) s₃) (fun _ _ => False) s₂

theorem listComp_ (hclos : closureFor scope env = pure cl) (hkind : scope.kind = .function) (hnames : ∀ y ∈ scope.names, y.2 = .local → scope.names.lookup y.1 = some .local)
    (h : wpAny (model VW w) A (eval iter env) (fun xv s₁ => wpAny (model VW w) A (pyIter xv) (CompRest w A env scope cl (.ListComp elt [⟨.Name x px, iter, ifs, 0⟩] scope pos) Q) (fun _ _ => False) s₁) (fun _ _ => False) s)
    (hs : ∀ x, foldedSetIterable iter env x = pure x := by intro _; rfl) :
    wpAny (model VW w) A (eval (.ListComp elt [⟨.Name x px, iter, ifs, 0⟩] scope pos) env) Q (fun _ _ => False) s := by
  rw [eval_ListComp]
  exact wpAny_comprehension_free (use := none) rfl hs hclos hkind hnames h

/-- the new env of a block -/
theorem newEnvComp {Q : Env → Shared → Prop}
    (h : Q (newEnv scope s.heap.objs.size env.globals (cellsFrom (s.heap.objs.size + 1) scope.names cl) env.qual none .none (some env) builtinsNs) { s with heap := pushCells (s.heap.push { cls := .type "dict", data := .dict #[] }) scope.names }) :
    wpAny (model VW w) A (newFunctionEnv scope env.globals cl [] env.qual none .none (some env)) Q (fun _ _ => False) s := by
  simp only [newFunctionEnv, Option.isSome_some, if_true]
  refine wpAny_bind (wpAny_alloc ?_)
  refine wpAny_bind (wpAny_layCells _ (fun name kind cells => by cases hkc : kind == NameKind.cell <;> simp [hkc]) _ _ _ _ ?_)
  rw [show ({ s with heap := s.heap.push { cls := .type "dict", data := .dict #[] } } : Shared).heap.objs.size = s.heap.objs.size + 1 from Heap.size_push ..]
  simp only [List.forIn_nil]
  refine wpAny_bind (wpAny_pure (wpAny_pure ?_))
  exact h

theorem listCompW (W : Walks VW w A I fp [I] n P St) (hn : n ≤ sizeLine) (hI : g.get? I = none) (hIL : I ≠ L) (hIs : I < s.heap.objs.size)
    (J : Addr → Nat → List Value → (Str → Option Value) → List (Addr × Obj) → Prop)
    (hfp : ∀ b ∈ fp, b ≠ I → (∃ o, g.get? b = some o) ∨ ∃ o, (b, o) ∈ frz)
    (hfz : ∀ C i ys m₁ news₁, J C i ys m₁ news₁ → ∀ q ∈ frz, q ∈ news₁)
    (live : ∀ i h, St i h → ∃ o, h.get? I = some o)
    (F : Fr g L s.heap m) (N : News g L s.heap news) (hnI : ∀ p ∈ news, p.1 ≠ I) (hst : St 0 s.heap)
    (hJ : J (s.heap.objs.size + 1) 0 [] (fun _ => none) (cellNews (s.heap.objs.size + 1 + 1) scope.names ++ news))
    (turn : ∀ C D oL oI i v ys cc mc₁ nw₁ h tk, D + 1 = C → L < D → I < D → i < n → P i v → J C i ys mc₁ nw₁ → (∀ p ∈ nw₁, p.1 ≠ I ∧ p.1 ≠ D ∧ p.1 ≠ L) → Fr g C h mc₁ → News g C h ((D, listOf ys.toArray cc) :: (I, oI) :: (L, oL) :: nw₁) →
      wpAny (model VW w) A (storeName (compEnvC scope (cellsFrom (C + 1) scope.names cl) C env) x v) (fun _ s₂ => wpAny (model VW w) A (tests ifs (compEnvC scope (cellsFrom (C + 1) scope.names cl) C env)) (fun ok s₃ =>
        if ok = true then wpAny (model VW w) A (eval elt (compEnvC scope (cellsFrom (C + 1) scope.names cl) C env)) (fun y s₄ => CompStep g C D I L (listOf ys.toArray cc) oI oL (J C (i + 1) (ys ++ [y])) s s₄) (fun _ _ => False) s₃
        else CompStep g C D I L (listOf ys.toArray cc) oI oL (J C (i + 1) ys) s s₃) (fun _ _ => False) s₂) (fun _ _ => False) { s with heap := h, toks := tk })
    (done : ∀ C D ys cc mc₁ nw₁ h tk, D + 1 = C → L < D → J C n ys mc₁ nw₁ → (∀ p ∈ nw₁, p.1 ≠ D) → Fr g L h m → News g L h ((D, listOf ys.toArray cc) :: nw₁) → Q (.ref D) { s with heap := h, toks := tk }) :
    CompRest w A env scope cl (.ListComp elt [⟨.Name x px, iter, ifs, 0⟩] scope pos) Q (.ref I) s := by
  unfold CompRest
  refine wpAny_newObj_type ?_
  refine newEnvComp ?_
  obtain ⟨oL, esL, epL, hoL, rL⟩ := F.ns
  have hLs : L < s.heap.objs.size := Heap.lt_size hoL
  have gnone : ∀ a, s.heap.objs.size ≤ a → g.get? a = none := fun a ha => by
    cases e : g.get? a with
    | none => rfl
    | some o => exact absurd (Heap.lt_size (F.keep _ _ e)) (Nat.not_lt.mpr ha)
  have hsz : (s.heap.push { cls := .type "list", dict := none, data := .seq ([] : List Value).toArray }).objs.size = s.heap.objs.size + 1 := Heap.size_push ..
  dsimp only
  rw [hsz]
  have hC : newEnv scope (s.heap.objs.size + 1) env.globals (cellsFrom (s.heap.objs.size + 1 + 1) scope.names cl) env.qual none .none (some env) builtinsNs =
      { scope := scope, locals := s.heap.objs.size + 1, globals := env.globals, cells := cellsFrom (s.heap.objs.size + 1 + 1) scope.names cl, qual := env.qual, func := none, code := env.code, frame := env.frame, builtins := env.builtins } := rfl
  rw [hC]
  generalize hH : pushCells ((s.heap.push { cls := .type "list", dict := none, data := .seq ([] : List Value).toArray }).push { cls := .type "dict", data := .dict #[] }) scope.names = H
  have keepH : ∀ b o, s.heap.get? b = some o → H.get? b = some o := fun b o e => hH ▸ pushCells_keeps _ _ _ _ (Heap.get?_push_of_some _ (Heap.get?_push_of_some _ e))
  have hD : H.get? s.heap.objs.size = some (listOf #[] 0) := hH ▸ pushCells_keeps _ _ _ _ (Heap.get?_push_of_some _ (Heap.get?_push_size _ rfl))
  have hCn : H.Ns (s.heap.objs.size + 1) (fun _ => none) := by
    have := Heap.Ns.new (s.heap.push { cls := .type "list", dict := none, data := .seq ([] : List Value).toArray }) (.type "dict")
    rw [hsz] at this
    exact hH ▸ this.keeps (pushCells_keeps _ _)
  have FC : Fr g (s.heap.objs.size + 1) H (fun _ => none) := ⟨hCn, fun b o e => keepH b o (F.keep b o e), Nat.le_trans (Nat.le_of_lt (Nat.lt_of_le_of_lt F.above hLs)) (Nat.le_succ _)⟩
  have NC : News g (s.heap.objs.size + 1) H ((s.heap.objs.size, listOf #[] 0) :: (L, oL) :: (cellNews (s.heap.objs.size + 1 + 1) scope.names ++ news)) := fun p hp => by
    rcases List.mem_cons.mp hp with rfl | hp
    · exact ⟨hD, Nat.ne_of_lt (Nat.lt_succ_self _), gnone _ (Nat.le_refl _)⟩
    · rcases List.mem_cons.mp hp with rfl | hp
      · refine ⟨keepH _ _ hoL, Nat.ne_of_lt (Nat.lt_succ_of_lt hLs), ?_⟩
        cases e : g.get? L with
        | none => rfl
        | some o => exact absurd (Heap.lt_size e) (Nat.not_lt.mpr F.above)
      · rcases List.mem_append.mp hp with hp | hp
        · have ge := ltN (Nat.lt_of_succ_le (cellNews_ge _ _ p hp))
          refine ⟨?_, Nat.ne_of_gt ge, gnone _ (Nat.le_of_lt (Nat.lt_trans (Nat.lt_succ_self _) ge))⟩
          have := cellNews_get scope.names ((s.heap.push { cls := .type "list", dict := none, data := .seq ([] : List Value).toArray }).push { cls := .type "dict", data := .dict #[] }) p (by rw [Heap.size_push, hsz]; exact hp)
          exact hH ▸ this
        · exact ⟨keepH _ _ (N p hp).1, Nat.ne_of_lt (Nat.lt_succ_of_lt (Heap.lt_size (N p hp).1)), (N p hp).2.2⟩
  have apC : ∀ p ∈ cellNews (s.heap.objs.size + 1 + 1) scope.names ++ news, p.1 ≠ I ∧ p.1 ≠ s.heap.objs.size ∧ p.1 ≠ L := fun p hp => by
    rcases List.mem_append.mp hp with hp | hp
    · have ge := ltN (Nat.lt_of_succ_le (cellNews_ge _ _ p hp))
      exact ⟨neN (by omega), neN (by omega), neN (by omega)⟩
    · have := ltN (Heap.lt_size (N p hp).1)
      exact ⟨hnI p hp, neN (by omega), (N p hp).2.1⟩
  have loop : ∀ s₃ : Shared, s₃ = { s with heap := H } → codeAny (model VW w) A (.compLoop (.ListComp elt [⟨.Name x px, iter, ifs, 0⟩] scope pos) 0 (.ref I) (.ref s.heap.objs.size) (compEnvC scope (cellsFrom (s.heap.objs.size + 1 + 1) scope.names cl) (s.heap.objs.size + 1) env))
      (compPost (model VW w) A (fun _ _ => False) none Q (.ref s.heap.objs.size) (s.heap.objs.size + 1)) s₃ := by
    rintro s₃ rfl
    refine compCore (frz := frz) (C := s.heap.objs.size + 1) W hn hI (neN (by omega)) (neN (by omega)) (Ne.symm hIL) (neN (by omega)) (J (s.heap.objs.size + 1)) hfp (hfz _) live FC NC apC
      (W.frame _ _ _ hst fun b _ o e => keepH b o e) hJ (fun i v ys cc mc₁ nw₁ oI h tk hi hP hJ₁ ap₁ F₁ N₁ => ?_) (fun ys cc mc₁ nw₁ h tk hJ₁ ap₁ F₁ N₁ => ?_)
    · exact turn _ _ oL oI i v ys cc mc₁ nw₁ h tk rfl hLs hIs hi hP hJ₁ ap₁ F₁ N₁
    · refine ⟨mc₁, F₁.ns, fun h'' hs'' => ?_⟩
      refine done _ _ ys cc mc₁ nw₁ h'' tk rfl hLs hJ₁ (fun p hp => (ap₁ p hp).2.1) ⟨⟨oL, esL, epL, ?_, rL⟩, fun b o e => ?_, F.above⟩ (fun p hp => ?_)
      · exact (hs''.2 L (neN (by omega))).trans (N₁ _ (.tail _ (.head _))).1
      · refine (hs''.2 b fun q => ?_).trans (F₁.keep b o e)
        have := ltN (Heap.lt_size (F.keep b o e))
        exact absurd q (neN (Nat.ne_of_lt (Nat.lt_succ_of_lt this)))
      · rcases List.mem_cons.mp hp with rfl | hp
        · exact ⟨(hs''.2 _ (neN (by omega))).trans (N₁ _ (.head _)).1, (neN (by omega)), (N₁ _ (.head _)).2.2⟩
        · have q := N₁ p (.tail _ (.tail _ hp))
          exact ⟨(hs''.2 _ q.2.1).trans q.1, (ap₁ p hp).2.2, q.2.2⟩
  exact codeAny_compStart_list (loop _ rfl) (W.self 0 _ _ _ (W.frame _ _ _ hst fun b _ o e => keepH b o e) (loop _ rfl))
end
end Mine
namespace Mine
open PySem PySem.W PyProof.Rows PySem.Calls
local macro_rules | `(tactic| k_steps) => `(tactic| repeat' ((fail_if_success (k_extra "stop")); first | (k_unfold; (try dsimp only)) | walk1 | (dsimp only; walk1) | fail "no step"))
local macro_rules | `(tactic| walk_at "eval Name") => `(tactic| (k_dflt (first
  | (refine' nmL ?F ?a ?b ?c ?d ?e ?_; (case c => exact rfl); (case a => exact rfl); (case b => exact rfl); (case F => assumption); (case d => exact rfl); (case e => exact rfl); k_whole)
  | (refine' nmC ?N ?b ?c ?d ?m ?e ?f ?_; (case c => exact rfl); (case b => exact rfl); (case d => exact rfl); (case N => assumption); (case m => k_mem); (case e => first | assumption | exact rfl); (case f => exact rfl); k_whole)
  | (refine' nmF ?N ?b ?c ?d ?m ?e ?f ?g ?_; (case c => exact rfl); (case b => exact rfl); (case d => exact rfl); (case N => assumption); (case m => k_mem); (case e => first | assumption | exact rfl); (case f => exact rfl); (case g => exact rfl); k_whole)
  | (refine' nmCg ?F ?b ?c ?d ?e ?f ?_; (case c => exact rfl); (case b => exact rfl); (case d => exact rfl); (case F => assumption); (case e => assumption); (case f => exact rfl); k_whole)
  | (refine' nmFg ?F ?b ?c ?d ?e ?f ?g ?_; (case c => exact rfl); (case b => exact rfl); (case d => exact rfl); (case F => assumption); (case e => assumption); (case f => exact rfl); (case g => exact rfl); k_whole)
  | (refine' nmK ?F ?X ?T ?e ?g ?k ?x ?d ?_; (case x => exact rfl); (case g => exact rfl); (case k => exact rfl); (case F => assumption); (case X => assumption); (case T => assumption); (case e => k_is); (case d => exact rfl); k_whole)
  | (refine' nmB ?F ?X ?T ?e ?v ?n ?g ?b ?k ?x ?d ?_; (case x => exact rfl); (case g => exact rfl); (case b => exact rfl); (case k => exact rfl); (case F => assumption); (case X => assumption); (case T => assumption); (case e => k_is); (case v => boot_fast); (case n => decide); (case d => exact rfl); k_whole))))
local macro_rules | `(tactic| walk_at "callWith ref") => `(tactic| (k_dflt (refine' callWith_F (fnAt_keep (by assumption) (Fr.keep (by assumption))) ?_)))
local macro_rules | `(tactic| walk_at "And") => `(tactic| ((with_reducible show FnAt _ _ ∧ _); refine ⟨fnAt_keep (by assumption) (Fr.keep (by assumption)), ?_⟩; try dsimp only [List.nil_append, List.cons_append]))
local macro_rules | `(tactic| walk_at "getAttr ref") => `(tactic| (k_dflt (refine' get_own ?k1 ?k2 (instG ?a ?b ?k) ?k4 ?k5 ?k6 ?k7 ?k8 ?k9 ?_; (case a => assumption); (case b => assumption); (case k => exact Fr.keep (by assumption)); (case k1 => assumption); (case k2 => assumption); (case k4 => k_is); (case k5 => k_is); (case k6 => k_is); (case k7 => k_is); (case k8 => k_get); (case k9 => k_handed); k_whole)))
local macro_rules | `(tactic| walk_at "exec FunctionDef") => `(tactic| (k_dflt (refine' nestDef_K ?d0 ?k0 ?a0 ?_; (case d0 => exact rfl); (case k0 => exact rfl); (case a0 => exact rfl)); (first
  | (k_dflt (refine' nest_K ?F ?N ?T ?C ?cd ?U ?t ?n ?cl ?_; (case F => k_asm); (case N => k_asm); (case T => k_asm); (case cd => exact rfl); (case C => kn_code); (case U => k_updF); (case t => kn_triples); (case n => kn_among); (case cl => exact rfl); k_whole); intro f' c' oc' vs' t' ct' dc' h' tk' F' N' d1' d2' l1 l2; (try dsimp only at N'); (try k_lt l1); (try k_lt2 l2))
  | (k_dflt (refine' nestHit_K ?F ?N ?T ?C ?cd ?mem ?t ?n ?cl ?_; (case F => k_asm); (case N => k_asm); (case T => k_asm); (case cd => exact rfl); (case C => kn_code); (case mem => k_mem); (case t => kn_triples); (case n => kn_hit); (case cl => exact rfl); k_whole); intro f' ct' dc' h' tk' F' N' l1; (try dsimp only at N'); (try k_lt l1)))))
local macro_rules | `(tactic| walk_at "eval Lambda") => `(tactic| (k_dflt (refine' kla_eval ?d0 ?_; (case d0 => exact rfl)); (first
  | (k_dflt (refine' kla_nest ?F ?N ?T ?C ?cd ?U ?t ?n ?cl ?_; (case F => k_asm); (case N => k_asm); (case T => k_asm); (case cd => exact rfl); (case C => kn_code); (case U => k_updF); (case t => kn_triples); (case n => kn_among); (case cl => exact rfl); k_whole); intro f' c' oc' vs' t' ct' h' tk' F' N' d1' d2' l1 l2; (try dsimp only at N'); (try k_lt l1); (try k_lt2 l2))
  | (k_dflt (refine' kla_hit ?F ?N ?T ?C ?cd ?mem ?t ?n ?cl ?_; (case F => k_asm); (case N => k_asm); (case T => k_asm); (case cd => exact rfl); (case C => kn_code); (case mem => k_mem); (case t => kn_triples); (case n => kn_hit); (case cl => exact rfl); k_whole); intro f' ct' h' tk' F' N' l1; (try dsimp only at N'); (try k_lt l1)))))
local macro_rules | `(tactic| walk_at "storeName") => `(tactic| (k_dflt (first
  | (k_extra "nolet"; refine' stL ?F ?N ?a ?b ?c ?_; (case c => exact rfl); (case a => exact rfl); (case b => exact rfl); (case F => assumption); (case N => assumption); k_whole; intro h' F' N'; (try k_sweep); (try (refine wpFlat (s := ‹Shared›) (by assumption) rfl rfl rfl rfl ?_; intro tk')))
  | (refine' stLm ?F ?N ?a ?b ?c ?_; (case c => exact rfl); (case a => exact rfl); (case b => exact rfl); (case F => assumption); (case N => assumption); k_whole; intro h' m' F' N'; (try k_sweep); (try (refine wpFlat (s := ‹Shared›) (by assumption) rfl rfl rfl rfl ?_; intro tk')))
  | (refine' stU ?F ?N ?U ?b ?c ?d ?e ?_; (case c => exact rfl); (case b => exact rfl); (case d => exact rfl); (case F => assumption); (case N => assumption); (case U => k_updF); (case e => first | assumption | exact rfl); k_whole; intro h' o' F' N' d'; (try dsimp only at N'); (try k_sweep); (try (refine wpFlat (s := ‹Shared›) (by assumption) rfl rfl rfl rfl ?_; intro tk'))))))
local macro_rules | `(tactic| k_inst) => `(tactic| first
  | (refine' instGL ?a ?F ?N ?m; (case a => assumption); (case F => assumption); (case N => assumption); (case m => k_mem))
  | (refine' instG ?a ?b ?k; (case a => assumption); (case b => assumption); (case k => exact Fr.keep (by assumption))))
local macro_rules | `(tactic| k_all) => `(tactic| first | assumption | exact allLt_ne (by assumption))
local macro_rules | `(tactic| k_mem) => `(tactic| first | with_reducible assumption | exact List.mem_append_left _ (by assumption) | exact List.mem_append_right _ (by assumption))
local macro_rules | `(tactic| walk_at "pj") => `(tactic| with_reducible first | exact And.left (by assumption) | exact pj2 (by assumption) | exact pj3 (by assumption) | exact pj4 (by assumption) | exact pj5 (by assumption) | exact pj6 (by assumption) | exact pj7 (by assumption) | exact pj8 (by assumption) | exact pj9 (by assumption) | exact pj10 (by assumption) | exact pj11 (by assumption) | exact pj12 (by assumption))
local macro_rules | `(tactic| walk_at "lt") => `(tactic| first | with_reducible assumption | walk_at "pj" | (refine Nat.lt_add_right _ ?_; walk_at "lt") | (refine' Nat.lt_trans ?a ?b; (case b => with_reducible assumption); walk_at "lt"))
local macro_rules | `(tactic| walk_at "wl") => `(tactic| with_reducible first | assumption | exact LitF.c1 (by assumption) | exact LitF.c2 (by assumption) | exact LitF.c3 (by assumption) | exact LitF.c4 (by assumption) | exact LitF.d2 (by assumption) | exact LitF.d3 (by assumption) | exact LitF.d4 (by assumption))
local macro_rules | `(tactic| k_ne) => `(tactic| first
  | assumption | exact Ne.symm (by assumption) | exact Nat.ne_of_lt (by assumption) | exact Nat.ne_of_gt (by assumption) | exact offNe (by decide) | (refine litNe rfl ?_; walk_at "wl") | (refine litEn rfl ?_; walk_at "wl") | (refine offLt rfl ?_; walk_at "wl") | (refine offGt rfl ?_; walk_at "wl") | (refine litNe rfl (Nat.lt_add_right _ ?_); walk_at "wl") | (refine litEn rfl (Nat.lt_add_right _ ?_); walk_at "wl") | (refine deepLt (by assumption) ?_; walk_at "lt") | (refine deepGt (by assumption) ?_; walk_at "lt") | (refine neN ?_; (try dsimp only); lia) | (refine neN ?_; (try dsimp only); omega))
local macro_rules | `(tactic| k_lt $h) => `(tactic| (replace $h := allLt_of $h; dsimp only [AllLt] at $h:ident))
section
theorem rsWs : True := by w_top off; k_with_none; trivial
open PySem PySem.W PyProof.Rows PySem.Calls
theorem fillWs : (Challenge.rw_pe0240_01, dk.heap_1) = (Challenge.rw_pe0240_01, dk.heap_1) := by k_fill; rfl
/-- a word: t tabs, b blanks, a sign -/
def wd (t b c : Nat) : Str := ⟨(List.replicate t 9 ++ List.replicate b 32 ++ [c]).toArray⟩
theorem wd_size (t b c : Nat) : (wd t b c).cps.size = t + b + 1 := by simp [wd]; omega
theorem wd_get (t b c i : Nat) : (wd t b c).cps[i]? = if i < t then some 9 else if i < t + b then some 32 else if i = t + b then some c else none := by
  simp only [wd, List.getElem?_toArray, List.getElem?_append, List.length_append, List.length_replicate, List.getElem?_replicate]
  by_cases h1 : i < t
  · rw [if_pos (by omega), if_pos h1, if_pos h1, if_pos h1]
  · rw [if_neg h1]
    by_cases h2 : i < t + b
    · rw [if_pos h2, if_neg h1, if_pos h2, if_pos (by omega)]
    · rw [if_neg h2, if_neg h2]
      by_cases h3 : i = t + b
      · rw [if_neg h1, if_pos h3, show i - (t + b) = 0 by omega]; rfl
      · rw [if_neg h1, if_neg h3]
        obtain ⟨k, hk⟩ : ∃ k, i - (t + b) = k + 1 := ⟨i - (t + b) - 1, by omega⟩
        rw [hk]; rfl

theorem sub4 {α : Type} {a b c d : α} {l : List α} (h1 : List.Mem a l) (h2 : List.Mem b l) (h3 : List.Mem c l) (h4 : List.Mem d l) : ∀ p ∈ [a, b, c, d], p ∈ l := by
  intro p hp
  simp only [List.mem_cons, List.not_mem_nil, or_false] at hp
  rcases hp with rfl | rfl | rfl | rfl <;> assumption
/-- what a Whitespace's own dict holds, as far as it is read again -/
def WsEs (P : Params) (n nt : Nat) (es : List DictEntry) : Prop :=
  ∃ (t1 t2 t3 t4 t5 : Tok) (rv nv : Value) (tn tt : Tok), es = [⟨PyData.keyHash P (Str.ofString "raw"), .str (Str.ofString "raw") t1, rv⟩, ⟨PyData.keyHash P (Str.ofString "n"), .str (Str.ofString "n") t2, .int n tn⟩, ⟨PyData.keyHash P (Str.ofString "nt"), .str (Str.ofString "nt") t3, .int nt tt⟩,
    ⟨PyData.keyHash P (Str.ofString "norm"), .str (Str.ofString "norm") t4, nv⟩, ⟨PyData.keyHash P (Str.ofString "is_simple"), .str (Str.ofString "is_simple") t5, .bool true⟩]
/-- the list count behind i signs -/
def WsCnt (t i : Nat) (vs : List Value) : Prop := (vs = [] ∧ min i t = 0) ∨ (0 < min i t ∧ ∃ tk, vs = [.int ((min i t : Nat) : Int) tk])

theorem wsInit {w : World} {mean : ExcName → Option Value} {mg mb : Str → Option Value} {A : Around} {g : Heap} {s : Shared} {R : Result → Shared → Prop}
  {a d : Addr} {t b c : Nat} {tw : Tok} (ht : t ≤ 2) (hb : b ≤ 3) (hc9 : c ≠ 9) (hc32 : c ≠ 32) (had : d < a)
  (O : On g s.heap [(a, instObj 152 d), (d, dictOf [] 0)]) (G : Gr w mean mg mb A 4 g)
  (hret : ∀ h' tk' es, WsEs w.params (t + b) t es → On g h' [(a, instObj 152 d), (d, dictOf es 5)] → R (.ok (.ret .none)) { s with heap := h', toks := tk' }) :
  codeAny (model VW w) A (.call (.ref 107) ⟨[.ref a, .str (wd t b c) tw], []⟩) R s := by
  obtain ⟨hdl, dp, fr, gd, un⟩ := A
  obtain rfl : hdl = none := G.hh
  refine' enterK (binds := [(Str.ofString "self", .ref a), (Str.ofString "ws", .str (wd t b c) tw)]) O G ?k6 ?k7 ?k9 ?kB ?_ ?c2 ?c3 ?c4 ?c5
  case k6 => k_is
  case k7 => k_is
  case k9 => exact BindsTo.of_eq rfl
  case c5 => decide
  case kB => exact locs rfl
  case c2 => exact rfl
  case c3 => exact rfl
  case c4 => exact rfl
  intro L' h' F' N' l1 X' T' G'
  (try dsimp only)
  k_lt l1
  k_lt2 had
  k_with "stop" => (with_reducible show wpAny _ _ (exec (Stmt.For _ _ _ _ _) _) _ _ _)
  k_steps
  rename Fr _ _ _ _ => F1
  rename News _ _ _ _ => N1
  refine for_ ?_
  k_with "stop" => (with_reducible show wpAny _ _ (pyIter _) _ _ _)
  k_steps
  refine' forStr (news := [(_, listOf #[] _), (a, instObj 152 d), (d, _)]) rfl rfl (fun i m₁ news₁ => Ex9 fun (ca cc : Nat) (tS tT tb tn tt t1 : Tok) (vs : List Value) => C11 (m₁ (Str.ofString "self") = some (.ref a)) (m₁ (Str.ofString "S") = some (.str (Str.ofString " ") tS)) (m₁ (Str.ofString "T") = some (.str (Str.ofString "\t") tT)) (m₁ (Str.ofString "count") = some (.ref ca)) (m₁ (Str.ofString "b") = some (.int ((i - t : Nat) : Int) tb)) (m₁ (Str.ofString "n") = some (.int ((i : Nat) : Int) tn)) (m₁ (Str.ofString "nt") = some (.int ((min i t : Nat) : Int) tt)) (WsCnt t i vs) (i ≤ t + b) (a < ca) (news₁ = [(ca, listOf vs.toArray cc), (a, instObj 152 d), (d, dictOf [⟨PyData.keyHash w.params (Str.ofString "raw"), .str (Str.ofString "raw") t1, .str (wd t b c) tw⟩] 1)])) F1 (newsSub N1 ?sub) ?hJ ?turn ?done
  case sub => refine List.forall_mem_cons.mpr ⟨?_, List.forall_mem_cons.mpr ⟨?_, List.forall_mem_cons.mpr ⟨?_, List.forall_mem_nil _⟩⟩⟩ <;> k_mem
  case hJ =>
    have e0 : 0 - t = 0 := by omega
    have e1 : min 0 t = 0 := by omega
    rw [e0, e1]
    exact ⟨_, _, _, _, _, _, _, _, [], rfl, rfl, rfl, rfl, rfl, rfl, rfl, .inl ⟨rfl, e1⟩, Nat.zero_le _, ltN (by omega), rfl⟩
  case turn =>
    rintro I oI i v m₁ news₁ h tk hi ⟨c', u, hv, rfl⟩ ⟨ca, cc, tS, tT, tb, tn, tt, t1, vs, e1, e2, e3, e4, e5, e6, e7, hcnt, hit, hac, rfl⟩ hnI F2 N2
    replace F2 := Fr.as F2 [(Str.ofString "self", .ref a), (Str.ofString "S", .str (Str.ofString " ") tS), (Str.ofString "T", .str (Str.ofString "\t") tT), (Str.ofString "count", .ref ca), (Str.ofString "b", .int ((i - t : Nat) : Int) tb), (Str.ofString "n", .int ((i : Nat) : Int) tn), (Str.ofString "nt", .int ((min i t : Nat) : Int) tt)] (by simp [e1, e2, e3, e4, e5, e6, e7])
    clear e1 e2 e3 e4 e5 e6 e7 F1 N1
    rw [wd_get] at hv
    have nI1 := neN (hnI _ (.head _))
    have nI2 := neN (hnI _ (.tail _ (.head _)))
    have nI3 := neN (hnI _ (.tail _ (.tail _ (.head _))))
    dsimp only at nI1 nI2 nI3
    k_lt2 hac
    clear hnI
    by_cases h1 : i < t
    · rw [if_pos h1] at hv; cases hv
      rw [show i - t = 0 by omega, show min i t = i by omega] at F2
      unfold WsCnt at hcnt
      rw [show min i t = i by omega] at hcnt
      rcases hcnt with ⟨rfl, rfl⟩ | ⟨hm, tk', rfl⟩
      · walk1
        show let Q1 := _; let A1 := _; wpAny _ A1 _ Q1 _ _
        intro Q1 A1
        k_steps
        rename Fr _ _ _ _ => F5
        rename News _ _ _ _ => N5
        refine' ⟨_, _, _, [(_, listOf _ _), (a, instObj 152 d), (d, _)], rfl, F5, newsSub N5 ?sub, ?ap, ?J⟩
        case sub => refine List.forall_mem_cons.mpr ⟨?_, List.forall_mem_cons.mpr ⟨?_, List.forall_mem_cons.mpr ⟨?_, List.forall_mem_cons.mpr ⟨?_, List.forall_mem_nil _⟩⟩⟩⟩ <;> k_mem
        case ap => exact List.forall_mem_cons.mpr ⟨by k_ne, List.forall_mem_cons.mpr ⟨by k_ne, List.forall_mem_cons.mpr ⟨by k_ne, List.forall_mem_nil _⟩⟩⟩
        case J =>
          have e0 : 0 + 1 - t = 0 := by omega
          have e1 : min (0 + 1) t = 0 + 1 := by omega
          dsimp only
          rw [e0, e1]
          refine ⟨_, _, _, _, _, _, _, _, [_], rfl, rfl, rfl, rfl, rfl, rfl, rfl, .inr ⟨by omega, _, by rw [e1]; rfl⟩, by omega, ltN (by omega), rfl⟩
      · walk1
        show let Q1 := _; let A1 := _; wpAny _ A1 _ Q1 _ _
        intro Q1 A1
        k_steps
        rename Fr _ _ _ _ => F5
        rename News _ _ _ _ => N5
        refine' ⟨_, _, _, [(_, listOf _ _), (a, instObj 152 d), (d, _)], rfl, F5, newsSub N5 ?sub, ?ap, ?J⟩
        case sub => refine List.forall_mem_cons.mpr ⟨?_, List.forall_mem_cons.mpr ⟨?_, List.forall_mem_cons.mpr ⟨?_, List.forall_mem_cons.mpr ⟨?_, List.forall_mem_nil _⟩⟩⟩⟩ <;> k_mem
        case ap => exact List.forall_mem_cons.mpr ⟨by k_ne, List.forall_mem_cons.mpr ⟨by k_ne, List.forall_mem_cons.mpr ⟨by k_ne, List.forall_mem_nil _⟩⟩⟩
        case J =>
          have e0 : i + 1 - t = 0 := by omega
          have e1 : min (i + 1) t = i + 1 := by omega
          dsimp only
          rw [e0, e1]
          refine ⟨_, _, _, _, _, _, _, _, [_], rfl, rfl, rfl, rfl, rfl, rfl, rfl, .inr ⟨by omega, _, by rw [e1]; rfl⟩, by omega, ltN (by omega), rfl⟩
    · rw [if_neg h1] at hv
      by_cases h2 : i < t + b
      · rw [if_pos h2] at hv; cases hv
        walk1
        show let Q1 := _; let A1 := _; wpAny _ A1 _ Q1 _ _
        intro Q1 A1
        k_steps
        rename Fr _ _ _ _ => F5
        rename News _ _ _ _ => N5
        refine' ⟨_, _, _, [(ca, listOf vs.toArray cc), (a, instObj 152 d), (d, _)], rfl, F5, N5, ?ap, ?J⟩
        case ap => exact List.forall_mem_cons.mpr ⟨by k_ne, List.forall_mem_cons.mpr ⟨by k_ne, List.forall_mem_cons.mpr ⟨by k_ne, List.forall_mem_nil _⟩⟩⟩
        case J =>
          have e0 : i + 1 - t = (i - t) + 1 := by omega
          have e1 : min (i + 1) t = min i t := by omega
          dsimp only
          rw [e0, e1]
          exact ⟨_, _, _, _, _, _, _, _, vs, rfl, rfl, rfl, rfl, rfl, rfl, rfl, by unfold WsCnt at hcnt ⊢; rw [e1]; exact hcnt, by omega, hac, rfl⟩
      · rw [if_neg h2, if_pos (by omega)] at hv; cases hv
        obtain rfl : i = t + b := by omega
        rw [show t + b - t = b by omega, show min (t + b) t = t by omega] at F2
        unfold WsCnt at hcnt
        rw [show min (t + b) t = t by omega] at hcnt
        have q1 : (({ cps := #[c] } : Str) == Str.ofString " ") = false := by
          rw [show Str.ofString " " = ⟨#[32]⟩ by decide +kernel, beq_eq_false_iff_ne]
          intro e; exact hc32 (Option.some.inj (congrArg (fun s : Str => s.cps.toList.head?) e))
        have q2 : (({ cps := #[c] } : Str) == Str.ofString "\t") = false := by
          rw [show Str.ofString "\t" = ⟨#[9]⟩ by decide +kernel, beq_eq_false_iff_ne]
          intro e; exact hc9 (Option.some.inj (congrArg (fun s : Str => s.cps.toList.head?) e))
        k_with "stop" => (with_reducible show wpAny _ _ (compareOp CmpOp.Eq _ _) _ _ _)
        k_steps
        refine eq_str ?_
        rw [q1]
        k_steps
        refine eq_str ?_
        rw [q2]
        k_with_none
        rcases hcnt with ⟨rfl, rfl⟩ | ⟨hm, tk', rfl⟩
        · k_steps
          dsimp only [ForStep]
          k_steps
          rename Fr _ _ _ _ => F5
          rename News _ _ _ _ => N5
          exact hret _ _ _ ⟨_, _, _, _, _, _, _, _, _, rfl⟩ (onOf F5 (newsSub N5 (by refine List.forall_mem_cons.mpr ⟨?_, List.forall_mem_cons.mpr ⟨?_, List.forall_mem_nil _⟩⟩ <;> k_mem)))
        · k_steps
          dsimp only [ForStep]
          k_steps
          rename Fr _ _ _ _ => F5
          rename News _ _ _ _ => N5
          exact hret _ _ _ ⟨_, _, _, _, _, _, _, _, _, rfl⟩ (onOf F5 (newsSub N5 (by refine List.forall_mem_cons.mpr ⟨?_, List.forall_mem_cons.mpr ⟨?_, List.forall_mem_nil _⟩⟩ <;> k_mem)))
  case done =>
    rintro m₁ news₁ h tk ⟨_, _, _, _, _, _, _, _, _, _, _, _, _, _, _, _, _, hit, _⟩
    rw [wd_size] at hit; omega
end
section
theorem rsLess : True := by w_top off; k_with_none; trivial
open PySem PySem.W PyProof.Rows PySem.Calls
/-- a Whitespace that stands in the ground -/
def WsAt (P : Params) (g : Heap) (a : Addr) (n nt : Nat) : Prop := ∃ d es, g.get? a = some (instObj 152 d) ∧ g.get? d = some (dictOf es 5) ∧ WsEs P n nt es
theorem WsAt.keeps {P : Params} {g g' : Heap} {a : Addr} {n nt : Nat} (h : WsAt P g a n nt) (st : g.StaysIn g') : WsAt P g' a n nt :=
  let ⟨d, es, h1, h2, h3⟩ := h; ⟨d, es, st _ _ h1, st _ _ h2, h3⟩

theorem wsLess {w : World} {mean : ExcName → Option Value} {mg mb : Str → Option Value} {A : Around} {g : Heap} {s : Shared} {R : Result → Shared → Prop}
  {a a' : Addr} {n nt n' nt' : Nat} (O : On g s.heap []) (G : Gr w mean mg mb A 4 g) (W1 : WsAt w.params g a n nt) (W2 : WsAt w.params g a' n' nt')
  (hret : ∀ h' tk', On g h' [] → R (.ok (.ret (.bool (decide (n < n') && decide (nt ≤ nt'))))) { s with heap := h', toks := tk' }) :
  codeAny (model VW w) A (.call (.ref 142) ⟨[.ref a, .ref a'], []⟩) R s := by
  obtain ⟨hdl, dp, fr, gd, un⟩ := A
  obtain rfl : hdl = none := G.hh
  obtain ⟨d1, es1, a1, a2, t1, t2, t3, t4, t5, rv, nv, tn, tt, rfl⟩ := W1
  obtain ⟨d2, es2, b1, b2, u1, u2, u3, u4, u5, rv', nv', tn', tt', rfl⟩ := W2
  refine' enterK (binds := [(Str.ofString "self", .ref a), (Str.ofString "other", .ref a')]) O G ?k6 ?k7 ?k9 ?kB ?_ ?c2 ?c3 ?c4 ?c5
  case k6 => k_is
  case k7 => k_is
  case k9 => exact BindsTo.of_eq rfl
  case c5 => decide
  case kB => exact locs rfl
  case c2 => exact rfl
  case c3 => exact rfl
  case c4 => exact rfl
  intro L' h' F' N' l1 X' T' G'
  (try dsimp only)
  k_steps
  · have e : (decide (n < n') && decide (nt ≤ nt')) = false := by rw [Bool.and_eq_false_iff]; exact .inl (decide_eq_false (by omega))
    have q := fun tk => hret h' tk (onOf F' N')
    rw [e] at q
    exact q _
  · have e : (decide (n < n') && decide (nt ≤ nt')) = decide ((nt : Int) ≤ (nt' : Int)) := by
      rw [decide_eq_true (show n < n' by omega), Bool.true_and]
      exact decide_eq_decide.mpr (by omega)
    have q := fun tk => hret h' tk (onOf F' N')
    rw [e] at q
    exact q _
end
section
theorem rsRl : True := by w_top off; k_with_none; trivial
open PySem PySem.W PyProof.Rows PySem.Calls
section
variable {prog : Program} {w : World} {A : Around} {E : Value → Shared → Prop} {s : Shared} {g : Heap} {L : Addr} {m : Str → Option Value} {news : List (Addr × Obj)} {Q : Value → Shared → Prop}
theorem isListN {h : Heap} {l : Addr} {items : Array Value} {c : Nat} (N : News g L h news) (hm : (l, listOf items c) ∈ news) : h.IsList l items := ⟨_, (N _ hm).1, rfl, c, rfl⟩
theorem lenN {l : Addr} {items : Array Value} {c : Nat} (N : News g L s.heap news) (hm : (l, listOf items c) ∈ news) (hz : items.size ≤ 1000000)
    (h : ∀ t tk, Q (.int items.size t) { s with toks := tk }) : wpAny (model prog w) A (call (.builtin "len") [.ref l]) Q E s :=
  call_len_list (isListN N hm) (by omega) (h _ _)
theorem itemN {value slice : Expr} {l : Addr} {items : List Value} {c i : Nat} {u : Tok} {v : Value} (N : News g L s.heap news) (hm : (l, listOf items.toArray c) ∈ news) (hv : items[i]? = some v) (hz : i < 1000000) (h : Q v s)
    (hs : subscripted slice false (.ref l) (.int (i : Int) u) = operate [.ref l, .int (i : Int) u] (getItem (.ref l) (.int (i : Int) u)) := by with_unfolding_all rfl)
    (ht : ∀ r, letTemporaryGo value (.ref l) r = pure () := by intro _; with_unfolding_all rfl) :
    wpAny (model prog w) A (subscriptTail value slice (.ref l) (.int (i : Int) u)) Q E s :=
  item_list (x := v) (isListN N hm) (by omega) (by omega) (by rw [Int.toNat_natCast]; simpa using hv) h hs ht
theorem itemG {value slice : Expr} {l : Addr} {items : List Value} {i : Nat} {u : Tok} {v : Value} (F : Fr g L s.heap m) (hl : g.IsList l items.toArray) (hv : items[i]? = some v) (hz : i < 1000000) (h : Q v s)
    (hs : subscripted slice false (.ref l) (.int (i : Int) u) = operate [.ref l, .int (i : Int) u] (getItem (.ref l) (.int (i : Int) u)) := by with_unfolding_all rfl)
    (ht : ∀ r, letTemporaryGo value (.ref l) r = pure () := by intro _; with_unfolding_all rfl) :
    wpAny (model prog w) A (subscriptTail value slice (.ref l) (.int (i : Int) u)) Q E s :=
  item_list (x := v) (Fr.lst F hl) (by omega) (by omega) (by rw [Int.toNat_natCast]; simpa using hv) h hs ht
theorem lenG {l : Addr} {items : Array Value} (F : Fr g L s.heap m) (hl : g.IsList l items) (hz : items.size ≤ 1000000)
    (h : ∀ t tk, Q (.int items.size t) { s with toks := tk }) : wpAny (model prog w) A (call (.builtin "len") [.ref l]) Q E s :=
  call_len_list (Fr.lst F hl) (by omega) (h _ _)
/-- texts by their signs -/
abbrev st (l : List Nat) : Str := ⟨l.toArray⟩
theorem st_len (l : List Nat) : (st l).length = l.length := by show (l.toArray).size = _; simp
theorem st_app (a b : List Nat) : st a ++ st b = st (a ++ b) := by
  show Str.mk _ = Str.mk _
  congr 1
  apply Array.toList_inj.mp
  simp
theorem addS {a b : List Nat} {t u : Tok} (hz : a.length + b.length ≤ 100000) (h : ∀ t' k, Q (.str (st (a ++ b)) t') { s with toks := k }) : wpAny (model prog w) A (binaryOp .Add (.str (st a) t) (.str (st b) u)) Q E s := by
  refine KXadd.add (K := a.length) (L := b.length) (by rw [st_len]; exact Nat.le_refl _) (by rw [st_len]; exact Nat.le_refl _) (by omega) fun t' k _ => ?_
  rw [st_app]
  exact h t' k
theorem addS' {x y : Str} {a b : List Nat} {t u : Tok} (hx : x = st a) (hy : y = st b) (hz : a.length + b.length ≤ 100000) (h : ∀ t' k, Q (.str (st (a ++ b)) t') { s with toks := k }) : wpAny (model prog w) A (binaryOp .Add (.str x t) (.str y u)) Q E s := by
  subst hx hy; exact addS hz h
theorem addC {x y : Str} {a b c : List Nat} {t u : Tok} (hx : x = st a) (hy : y = st b) (hc : a ++ b = c) (hz : a.length + b.length ≤ 100000) (h : ∀ t' k, Q (.str (st c) t') { s with toks := k }) : wpAny (model prog w) A (binaryOp .Add (.str x t) (.str y u)) Q E s := by
  subst hx hy hc; exact addS hz h
theorem modS {x n : Nat} {z : Int} {t u : Tok} (hz : z = (n : Int)) (hn : 0 < n) (h : ∀ t' k, Q (.int ((x % n : Nat) : Int) t') { s with toks := k }) : wpAny (model prog w) A (binaryOp .Mod (.int (x : Int) t) (.int z u)) Q E s := by
  subst hz
  refine mod_int' (by omega) ?_
  rw [Int.fmod_eq_emod_of_nonneg _ (by omega), ← Int.natCast_emod]
  exact h _ _
theorem divS {x n : Nat} {z : Int} {t u : Tok} (hz : z = (n : Int)) (hn : 0 < n ∧ n < 100000) (hx : x ≤ 100000) (h : ∀ t' k, Q (.int ((x / n : Nat) : Int) t') { s with toks := k }) : wpAny (model prog w) A (binaryOp .FloorDiv (.int (x : Int) t) (.int z u)) Q E s := by
  subst hz
  refine floordiv_int (by omega) ?_ (Or.inl (PyProof.noPylong_small (by omega)))
  rw [Int.fdiv_eq_ediv_of_nonneg _ (by omega), ← Int.natCast_ediv]
  exact h _ _
theorem foldRep (c : Nat) : ∀ (n : Nat) (acc : Array Nat), (List.replicate n #[c]).foldl (· ++ ·) acc = acc ++ (List.replicate n c).toArray
  | 0, acc => by simp
  | n + 1, acc => by
    rw [List.replicate_succ, List.foldl_cons, foldRep c n]
    apply Array.toList_inj.mp
    simp [List.replicate_succ]
theorem mulTxt (c n : Nat) : Txt.mul (st [c]) (n : Int) = st (List.replicate n c) := by
  unfold Txt.mul
  by_cases h : n = 0
  · subst h; rfl
  · rw [if_neg (by omega)]
    by_cases h1 : n = 1
    · subst h1; rfl
    · rw [if_neg]
      · show Str.mk _ = Str.mk _
        congr 1
        rw [Int.toNat_natCast]
        show (List.replicate n #[c]).foldl (· ++ ·) #[] = _
        rw [foldRep]
        simp
      · have e1 : ((n : Int) == 1) = false := by rw [beq_eq_false_iff_ne]; omega
        have e2 : ((st [c]).length == 0) = false := rfl
        rw [e1, e2]
        decide
theorem mulS {c n : Nat} {t u : Tok} (hn : n ≤ 1000) (h : ∀ t' k, Q (.str (st (List.replicate n c)) t') { s with toks := k }) : wpAny (model prog w) A (binaryOp .Mult (.str (st [c]) t) (.int (n : Int) u)) Q E s := by
  refine SB.mul ⟨?_, ?_, ?_⟩ fun t' k => by rw [mulTxt]; exact h t' k
  · rw [Bool.or_eq_false_iff]; exact ⟨decide_eq_false (by omega), decide_eq_false (by omega)⟩
  · intro h1 _
    have e : (st [c]).length = 1 := rfl
    rw [e]
    have : (1 : Int) ≤ (2 ^ 63 - 1) / (n : Int) := by
      rw [Int.le_ediv_iff_mul_le (by omega)]
      omega
    omega
  · intro _ _
    have e : (st [c]).length = 1 := rfl
    rw [e, Int.toNat_natCast, Nat.one_mul]
    show decide (n > sizeLine) = false
    rw [decide_eq_false_iff_not, sizeLine_eq]
    omega
theorem mulS' {x : Str} {c n : Nat} {z : Int} {t u : Tok} (hx : x = st [c]) (hz : z = (n : Int)) (hn : n ≤ 1000) (h : ∀ t' k, Q (.str (st (List.replicate n c)) t') { s with toks := k }) : wpAny (model prog w) A (binaryOp .Mult (.str x t) (.int z u)) Q E s := by
  subst hx hz; exact mulS hn h
/-- the signs at a place of a text -/
theorem itemZ {value slice : Expr} {l : List Nat} {i : Int} {c : Nat} {t u : Tok} (hz : l.length ≤ 100000) (h0 : -(l.length : Int) ≤ i) (h1 : i < l.length) (hc : l[(if i < 0 then i + l.length else i).toNat]? = some c) (h : ∀ t' k, Q (.str (st [c]) t') { s with toks := k })
    (hs : subscripted slice false (.str (st l) t) (.int i u) = operate [.str (st l) t, .int i u] (getItem (.str (st l) t) (.int i u)) := by with_unfolding_all rfl)
    (ht : ∀ r, letTemporaryGo value (.str (st l) t) r = pure () := by intro _; with_unfolding_all rfl) :
    wpAny (model prog w) A (subscriptTail value slice (.str (st l) t) (.int i u)) Q E s := by
  refine KXi.item (n := l.length) (st_len l) h0 h1 (by omega) (fun _ => ?_) hs ht
  have e : Txt.item (st l) i = st [c] := by
    unfold Txt.item Txt.charAt seqIndex?
    rw [st_len]
    dsimp only
    rw [if_pos (by
      rw [Bool.and_eq_true]
      refine ⟨decide_eq_true ?_, decide_eq_true ?_⟩ <;> split <;> omega)]
    show Str.mk #[((l.toArray[(if i < 0 then i + (l.length : Int) else i).toNat]?).getD 0)] = _
    rw [List.getElem?_toArray, hc]
    rfl
  rw [e]
  exact h _ _
theorem itemZ' {value slice : Expr} {x : Str} {l : List Nat} {i : Int} {c : Nat} {t u : Tok} (hx : x = st l) (hz : l.length ≤ 100000) (h0 : -(l.length : Int) ≤ i) (h1 : i < l.length) (hc : l[(if i < 0 then i + l.length else i).toNat]? = some c) (h : ∀ t' k, Q (.str (st [c]) t') { s with toks := k })
    (hs : subscripted slice false (.str x t) (.int i u) = operate [.str x t, .int i u] (getItem (.str x t) (.int i u)) := by with_unfolding_all rfl)
    (ht : ∀ r, letTemporaryGo value (.str x t) r = pure () := by intro _; with_unfolding_all rfl) :
    wpAny (model prog w) A (subscriptTail value slice (.str x t) (.int i u)) Q E s := by
  subst hx; exact itemZ hz h0 h1 hc h hs ht
end
section
variable {w : World} {A : Around} {g : Heap} {L : Nat} {m : Str → Option Value} {news frz : List (Addr × Obj)} {env : Env} {x : Str} {px pos : Pos}
  {s : Shared} {iter elt : Expr} {ifs : List Expr} {scope : Scope} {Q : Value → Shared → Prop} {cl : List (Str × Addr)}
theorem pushLt {o : Obj} (N : News g L s.heap news) : ∀ p ∈ news, p.1 < (s.heap.push o).objs.size + 1 := fun p hp => by
  rw [Heap.size_push]
  exact Nat.lt_succ_of_lt (Nat.lt_succ_of_lt (Heap.lt_size (N p hp).1))
/-- what a turn of a comprehension must do -/
def CompTurn (w : World) (A : Around) (g : Heap) (L I C D : Nat) (oI oL : Obj) (cenv : Env) (x : Str) (ifs : List Expr) (elt : Expr) (J : Nat → List Value → (Str → Option Value) → List (Addr × Obj) → Prop) (i : Nat) (v : Value) (ys : List Value) (cc : Nat) (s s₁ : Shared) : Prop :=
  wpAny (model VW w) A (storeName cenv x v) (fun _ s₂ => wpAny (model VW w) A (tests ifs cenv) (fun ok s₃ =>
        if ok = true then wpAny (model VW w) A (eval elt cenv) (fun y s₄ => CompStep g C D I L (listOf ys.toArray cc) oI oL (J (i + 1) (ys ++ [y])) s s₄) (fun _ _ => False) s₃
        else CompStep g C D I L (listOf ys.toArray cc) oI oL (J (i + 1) ys) s s₃) (fun _ _ => False) s₂) (fun _ _ => False) s₁

theorem compStr {x₀ : Str} {t : Tok} (hh : A.handled = none) (hn : x₀.cps.size ≤ sizeLine)
    (J : Addr → Nat → List Value → (Str → Option Value) → List (Addr × Obj) → Prop)
    (F : Fr g L s.heap m) (N : News g L s.heap news)
    (hJ : ∀ C, (∀ p ∈ news, p.1 < C) → J C 0 [] (fun _ => none) (cellNews (C + 1) scope.names ++ news))
    (turn : ∀ I C D oL oI i v ys cc mc₁ nw₁ h tk, D + 1 = C → L < D → I < D → i < x₀.cps.size → SignAt x₀ i v → J C i ys mc₁ nw₁ → (∀ p ∈ nw₁, p.1 ≠ I ∧ p.1 ≠ D ∧ p.1 ≠ L) → Fr g C h mc₁ → News g C h ((D, listOf ys.toArray cc) :: (I, oI) :: (L, oL) :: nw₁) →
      CompTurn w A g L I C D oI oL (compEnvC scope (cellsFrom (C + 1) scope.names cl) C env) x ifs elt (J C) i v ys cc s { s with heap := h, toks := tk })
    (done : ∀ C D ys cc mc₁ nw₁ h tk, D + 1 = C → L < D → J C x₀.cps.size ys mc₁ nw₁ → (∀ p ∈ nw₁, p.1 ≠ D) → Fr g L h m → News g L h ((D, listOf ys.toArray cc) :: nw₁) → Q (.ref D) { s with heap := h, toks := tk }) :
    wpAny (model VW w) A (pyIter (.str x₀ t)) (CompRest w A env scope cl (.ListComp elt [⟨.Name x px, iter, ifs, 0⟩] scope pos) Q) (fun _ _ => False) s := by
  have hIL : s.heap.objs.size ≠ L := Nat.ne_of_gt F.ns.lt
  have key : ∀ (o : Obj) (St : Nat → Heap → Prop), Walks VW w A s.heap.objs.size [s.heap.objs.size] [s.heap.objs.size] x₀.cps.size (SignAt x₀) St → St 0 (s.heap.push o) → (∀ i h, St i h → ∃ o, h.get? s.heap.objs.size = some o) →
      CompRest w A env scope cl (.ListComp elt [⟨.Name x px, iter, ifs, 0⟩] scope pos) Q (.ref s.heap.objs.size) { s with heap := s.heap.push o } := by
    intro o St W st0 live
    refine listCompW (frz := []) (m := m) W hn (freshG F) hIL (by show _ < (s.heap.push o).objs.size; rw [Heap.size_push]; exact Nat.lt_succ_self _) J (fun b hb hbI => absurd (List.mem_singleton.mp hb) hbI) (fun _ _ _ _ _ _ _ h => nomatch h) live (F.push _) (fun p hp => ⟨Heap.get?_push_of_some _ (N p hp).1, (N p hp).2⟩)
      (fun p hp e => absurd (Heap.lt_size (N p hp).1) (by rw [e]; exact Nat.lt_irrefl _)) st0 (hJ _ (pushLt N))
      (fun C D oL oI i v ys cc mc₁ nw₁ h tk a1 a2 a3 a4 a5 a6 a7 a8 a9 => turn _ C D oL oI i v ys cc mc₁ nw₁ h tk a1 a2 a3 a4 a5 a6 a7 a8 a9) (fun C D ys cc mc₁ nw₁ h tk a1 a2 a3 a4 a5 a6 => done C D ys cc mc₁ nw₁ h tk a1 a2 a3 a4 a5 a6)
  cases ha : x₀.cps.all (· < 128)
  · exact wpAny_pyIter_wide ha (key _ _ (Walks.strWide hh _ x₀ t) ⟨_, Heap.get?_push_size _ rfl, rfl, rfl⟩ fun i h st => let ⟨o, ho, _⟩ := st; ⟨o, ho⟩)
  · exact wpAny_pyIter_ascii ha (key _ _ (Walks.strAscii hh _ x₀ t) ⟨_, Heap.get?_push_size _ rfl, rfl, rfl⟩ fun i h st => let ⟨o, ho, _⟩ := st; ⟨o, ho⟩)

theorem compList {l : Addr} {items : Array Value} (hl : s.heap.IsList l items) (hlg : (∃ o, g.get? l = some o) ∨ ∃ o, (l, o) ∈ frz) (hh : A.handled = none) (hn : items.size ≤ sizeLine)
    (J : Addr → Nat → List Value → (Str → Option Value) → List (Addr × Obj) → Prop)
    (hfz : ∀ C i ys m₁ news₁, J C i ys m₁ news₁ → ∀ q ∈ frz, q ∈ news₁)
    (F : Fr g L s.heap m) (N : News g L s.heap news)
    (hJ : ∀ C, (∀ p ∈ news, p.1 < C) → J C 0 [] (fun _ => none) (cellNews (C + 1) scope.names ++ news))
    (turn : ∀ I C D oL oI i v ys cc mc₁ nw₁ h tk, D + 1 = C → L < D → I < D → i < items.size → items[i]? = some v → J C i ys mc₁ nw₁ → (∀ p ∈ nw₁, p.1 ≠ I ∧ p.1 ≠ D ∧ p.1 ≠ L) → Fr g C h mc₁ → News g C h ((D, listOf ys.toArray cc) :: (I, oI) :: (L, oL) :: nw₁) →
      CompTurn w A g L I C D oI oL (compEnvC scope (cellsFrom (C + 1) scope.names cl) C env) x ifs elt (J C) i v ys cc s { s with heap := h, toks := tk })
    (done : ∀ C D ys cc mc₁ nw₁ h tk, D + 1 = C → L < D → J C items.size ys mc₁ nw₁ → (∀ p ∈ nw₁, p.1 ≠ D) → Fr g L h m → News g L h ((D, listOf ys.toArray cc) :: nw₁) → Q (.ref D) { s with heap := h, toks := tk }) :
    wpAny (model VW w) A (pyIter (.ref l)) (CompRest w A env scope cl (.ListComp elt [⟨.Name x px, iter, ifs, 0⟩] scope pos) Q) (fun _ _ => False) s := by
  refine wpAny_pyIter_list hl ?_
  obtain ⟨ol, hol, _⟩ := id hl
  have hne : l ≠ s.heap.objs.size := Nat.ne_of_lt (Heap.lt_size hol)
  have hIL : s.heap.objs.size ≠ L := Nat.ne_of_gt F.ns.lt
  refine listCompW (frz := frz) (m := m) (Walks.list hh s.heap.objs.size l hne items) hn (freshG F) hIL (by show _ < (s.heap.push _).objs.size; rw [Heap.size_push]; exact Nat.lt_succ_self _) J (fun b hb hbI => ?_) hfz (fun i h st => let ⟨o, ho, _⟩ := st.1; ⟨o, ho⟩) (F.push _) (fun p hp => ⟨Heap.get?_push_of_some _ (N p hp).1, (N p hp).2⟩)
      (fun p hp e => absurd (Heap.lt_size (N p hp).1) (by rw [e]; exact Nat.lt_irrefl _)) ⟨⟨_, Heap.get?_push_size _ rfl, rfl, rfl⟩, hl.at fun o e => Heap.get?_push_of_some _ e⟩ (hJ _ (pushLt N))
      (fun C D oL oI i v ys cc mc₁ nw₁ h tk a1 a2 a3 a4 a5 a6 a7 a8 a9 => turn _ C D oL oI i v ys cc mc₁ nw₁ h tk a1 a2 a3 a4 a5 a6 a7 a8 a9) (fun C D ys cc mc₁ nw₁ h tk a1 a2 a3 a4 a5 a6 => done C D ys cc mc₁ nw₁ h tk a1 a2 a3 a4 a5 a6)
  rcases List.mem_cons.mp hb with e | hb
  · exact absurd e hbI
  · rw [List.mem_singleton.mp hb]; exact hlg

theorem compRange {r : Addr} {a b : Int} {t u v : Tok} (hr : IsRange s.heap r a b 1 t u v) (ha : -1000000 < a) (hab : a ≤ b) (hb : b < 1000000) (hh : A.handled = none)
    (J : Addr → Nat → List Value → (Str → Option Value) → List (Addr × Obj) → Prop)
    (F : Fr g L s.heap m) (N : News g L s.heap news)
    (hJ : ∀ C, (∀ p ∈ news, p.1 < C) → J C 0 [] (fun _ => none) (cellNews (C + 1) scope.names ++ news))
    (turn : ∀ I C D oL oI i tv ys cc mc₁ nw₁ h tk, D + 1 = C → L < D → I < D → (a + (i : Nat) < b) → J C i ys mc₁ nw₁ → (∀ p ∈ nw₁, p.1 ≠ I ∧ p.1 ≠ D ∧ p.1 ≠ L) → Fr g C h mc₁ → News g C h ((D, listOf ys.toArray cc) :: (I, oI) :: (L, oL) :: nw₁) →
      CompTurn w A g L I C D oI oL (compEnvC scope (cellsFrom (C + 1) scope.names cl) C env) x ifs elt (J C) i (.int (a + (i : Nat)) tv) ys cc s { s with heap := h, toks := tk })
    (done : ∀ C D ys cc mc₁ nw₁ h tk, D + 1 = C → L < D → J C (b - a).toNat ys mc₁ nw₁ → (∀ p ∈ nw₁, p.1 ≠ D) → Fr g L h m → News g L h ((D, listOf ys.toArray cc) :: nw₁) → Q (.ref D) { s with heap := h, toks := tk }) :
    wpAny (model VW w) A (pyIter (.ref r)) (CompRest w A env scope cl (.ListComp elt [⟨.Name x px, iter, ifs, 0⟩] scope pos) Q) (fun _ _ => False) s := by
  have hIL : s.heap.objs.size ≠ L := Nat.ne_of_gt F.ns.lt
  refine wpAny_pyIter_range hr (small_one (by omega) (by omega) (by omega) (by omega)) ?_
  rw [rangeSize_nat]
  refine listCompW (frz := []) (m := m) (Walks.range hh s.heap.objs.size a 1 (b - a).toNat) (by rw [sizeLine_eq]; omega) (freshG F) hIL (by show _ < (s.heap.push _).objs.size; rw [Heap.size_push]; exact Nat.lt_succ_self _) J (fun b hb hbI => absurd (List.mem_singleton.mp hb) hbI) (fun _ _ _ _ _ _ _ h => nomatch h) (fun i h st => ⟨_, st⟩) (F.push _) (fun p hp => ⟨Heap.get?_push_of_some _ (N p hp).1, (N p hp).2⟩)
      (fun p hp e => absurd (Heap.lt_size (N p hp).1) (by rw [e]; exact Nat.lt_irrefl _)) ?_ (hJ _ (pushLt N))
      (fun C D oL oI i v ys cc mc₁ nw₁ h tk a1 a2 a3 a4 a5 a6 a7 a8 a9 => ?_) (fun C D ys cc mc₁ nw₁ h tk a1 a2 a3 a4 a5 a6 => done C D ys cc mc₁ nw₁ h tk a1 a2 a3 a4 a5 a6)
  · have := Heap.get?_push_size s.heap (o := { cls := .type "range_iterator", data := .fields #[rawInt a, rawInt ((b - a).toNat : Nat), rawInt 1] }) rfl
    simpa using this
  · obtain ⟨t', rfl⟩ := a5
    rw [Int.mul_one]
    exact turn _ C D oL oI i t' ys cc mc₁ nw₁ h tk a1 a2 a3 (by omega) a6 a7 a8 a9
theorem tests_nil {Q : Bool → Shared → Prop} {E : Value → Shared → Prop} (h : Q true s) : wpAny (model VW w) A (tests [] env) Q E s := by
  unfold tests; rw [List.forIn_nil]; exact wpAny_pure h
theorem tests_one {c : Expr} {Q : Bool → Shared → Prop} {E : Value → Shared → Prop} (h : wpAny (model VW w) A (isTrue c env (eval c env)) Q E s) : wpAny (model VW w) A (tests [c] env) Q E s := by
  unfold tests
  rw [List.forIn_cons]
  simp only [if_true, List.forIn_nil]
  exact wpAny_bind (wpAny_bind (wpAny_mono h (fun _ _ h => wpAny_pure (wpAny_pure h)) fun _ _ e => e))
end
end
section
theorem rsPg : True := by w_top off; k_with_none; trivial
open PySem PySem.W PyProof.Rows PySem.Calls
/-- the numbers of a script -/
def pgZ (ns : List Int) : List Int := List.map (fun k' => k'.fmod 24) (List.take 6 ns) ++ List.drop (List.take 6 ns).length [7, 15, 2, 21, 1]
/-- the same, as natural numbers -/
def pgX (ns : List Int) : List Nat := (pgZ ns).map Int.toNat
theorem pgZ_len (ns : List Int) : (pgZ ns).length = 5 ∨ (pgZ ns).length = 6 := by
  unfold pgZ
  rw [List.length_append, List.length_map, List.length_drop, List.length_take]
  show min 6 ns.length + (5 - min 6 ns.length) = 5 ∨ min 6 ns.length + (5 - min 6 ns.length) = 6
  omega
theorem pgZ_mem (ns : List Int) : ∀ x ∈ pgZ ns, 0 ≤ x ∧ x < 24 := by
  intro x hx
  rcases List.mem_append.mp hx with hx | hx
  · obtain ⟨k, _, rfl⟩ := List.mem_map.mp hx
    exact ⟨Int.fmod_nonneg_of_pos k (by omega), Int.fmod_lt_of_pos k (by omega)⟩
  · have := List.mem_of_mem_drop hx
    simp only [List.mem_cons, List.not_mem_nil, or_false] at this
    omega
theorem pgX_get {ns : List Int} {i : Nat} (hi : i < (pgZ ns).length) : ∃ x, (pgX ns)[i]? = some x ∧ (pgZ ns)[i]? = some (x : Int) ∧ x < 24 := by
  have h := pgZ_mem ns _ (List.getElem_mem hi)
  refine ⟨((pgZ ns)[i]).toNat, ?_, ?_, by omega⟩
  · unfold pgX; rw [List.getElem?_map, List.getElem?_eq_getElem hi]; rfl
  · rw [List.getElem?_eq_getElem hi, Int.toNat_of_nonneg h.1]
/-- a row's signs -/
def wl (k x : Nat) : List Nat := List.replicate (x % 3) 9 ++ List.replicate (x / 3 % 4) 32 ++ [97 + k]
theorem wl_len (k x : Nat) : (wl k x).length ≤ 6 := by unfold wl; simp; omega
/-- a row as it stands in the text -/
def enc (k x : Nat) : List Nat := if x < 12 then 34 :: wl k x ++ [34, 10] else (wl k x).flatMap (fun c => [92, c]) ++ [10]
theorem enc_len (k x : Nat) : (enc k x).length ≤ 13 := by
  have := wl_len k x
  unfold enc
  split
  · simp; omega
  · have : ∀ l : List Nat, (l.flatMap (fun c => [92, c])).length = 2 * l.length := by
      intro l; induction l with
      | nil => rfl
      | cons a l ih => simp [ih]; omega
    rw [List.length_append, this]; simp; omega
/-- the text of the first i rows -/
def txl (X : List Nat) : Nat → List Nat
  | 0 => []
  | i + 1 => txl X i ++ enc i (X.getD i 0)
theorem txl_len (X : List Nat) : ∀ i, (txl X i).length ≤ 13 * i
  | 0 => Nat.le_refl _
  | i + 1 => by
    have := txl_len X i
    have := enc_len i (X.getD i 0)
    unfold txl; rw [List.length_append]; omega
/-- the words of the first i rows -/
def wds (X : List Nat) (i : Nat) : List Str := (List.range i).map fun k => st (wl k (X.getD k 0))
theorem strV_snoc {l : List (Str × Tok)} {x : Str} {t : Tok} : strValues l ++ [Value.str x t] = strValues (l ++ [(x, t)]) := by unfold strValues; simp
theorem e92 : Str.ofString "\\" = st [92] := by decide +kernel
theorem carriedStr : ∀ (l : List (Str × Tok)), CarriedAll (strValues l) ((l.map (·.1)).map PyData.str)
  | [] => .nil
  | p :: l => .cons (.str p.1 p.2) (carriedStr l)
theorem escLen (l : List Nat) : (l.flatMap (fun c => [92, c])).length = 2 * l.length := by
  induction l with
  | nil => rfl
  | cons a l ih => rw [List.flatMap_cons, List.length_append, ih, List.length_cons]; simp; omega
theorem joinEsc (l : List Nat) : Txt.join (Str.ofString "") (l.map fun c => st [92, c]) = st (l.flatMap (fun c => [92, c])) := by
  show Builtin.Str.glued (Str.ofString "") _ = _
  rw [StrLaws.glued_eq_join, show Str.ofString "" = Str.empty by decide +kernel]
  induction l with
  | nil => rfl
  | cons a l ih =>
    cases l with
    | nil => rfl
    | cons b l =>
      rw [List.map_cons, List.map_cons, join_cons_cons]
      rw [List.map_cons] at ih
      rw [ih, Str.append_empty, st_app]
      rfl
theorem lawPage {w : World} {mean : ExcName → Option Value} {mg mb : Str → Option Value} {A : Around} {g : Heap} {s : Shared} {R : Result → Shared → Prop}
  {l : Addr} {vs : List Value} {ns : List Int} {z : Addr} {oz : Obj} (O : On g s.heap [(z, oz)]) (G : Gr w mean mg mb A 6 g) (hl : g.IsList l vs.toArray) (hi : IntsAre vs ns) (hsz : ns.length ≤ 63)
  (hret : ∀ h' tk' T lw tt cw wv, wv.map (·.1) = wds (pgX ns) (pgX ns).length → lw < T → z < lw → On g h' [(T, { cls := .type "tuple", data := .seq #[.ref lw, .str (st (txl (pgX ns) (pgX ns).length)) tt] }), (lw, listOf (strValues wv).toArray cw), (z, oz)] → R (.ok (.ret (.ref T))) { s with heap := h', toks := tk' }) :
  codeAny (model VW w) A (.call (.ref 168) ⟨[.ref l], []⟩) R s := by
  obtain ⟨hdl, dp, fr, gd, un⟩ := A
  obtain rfl : hdl = none := G.hh
  refine' enterK (binds := [(Str.ofString "script", .ref l)]) O G ?k6 ?k7 ?k9 ?kB ?_ ?c2 ?c3 ?c4 ?c5
  case k6 => k_is
  case k7 => k_is
  case k9 => exact BindsTo.of_eq rfl
  case c5 => decide
  case kB => exact locs rfl
  case c2 => exact rfl
  case c3 => exact rfl
  case c4 => exact rfl
  intro L' h' F' N' l1 X' T' G'
  (try dsimp only)
  k_with "stop" => (with_reducible show wpAny _ _ (call (Value.builtin "len") _) _ _ _)
  k_steps
  rename News _ _ _ _ => N1
  rename Fr _ _ _ _ => F1
  rename IntsAre _ (List.map _ _) => hI1
  rename List.length _ = List.length (List.map _ _) => hL1
  refine' lenN N1 ?m ?z ?_
  case m => k_mem
  case z => rw [List.size_toArray, hL1, List.length_map, List.length_take]; omega
  intro t1 tk1
  rw [List.size_toArray, hL1, List.length_map]
  have hle : (List.take 6 ns).length ≤ 6 := by rw [List.length_take]; omega
  generalize hq : (List.take 6 ns).length = q at hle
  k_with "stop" => (with_reducible show wpAny _ _ (subscriptTail _ _ _ _) _ _ _)
  k_steps
  refine kba_turn (value' := Expr.Name (Str.ofString "_") ⟨0, 0, 0, 0⟩) (fun _ => rfl) ?_
  refine' kmk_slice_ints (ns := [7, 15, 2, 21, 1]) (ms := List.drop q [7, 15, 2, 21, 1]) F1 N1 ?l (IsPart.int _ _) IsPart.none ?i ?m rfl ?_ ?s ?t ?z
  case l => kmk_list
  case i => l_ints
  case m => exact kmk_from (x := (q : Int)) (by l_ints) (by omega)
  case s => with_unfolding_all rfl
  case t => kmk_pure
  case z => exact Nat.le_of_ble_eq_true rfl
  intro D2 ws2 h2 F2 N2 l2 hI2 _ _
  clear F1
  k_lt l2
  k_with "stop" => (with_reducible show wpAny _ _ (binaryOp _ _ _) _ _ _)
  k_steps
  refine' kmk_add_ints F2 N2 ?a ?b hI1 hI2 ?_ ?z
  case a => exact isListN N2 (by k_mem)
  case b => exact isListN N2 (by k_mem)
  case z => rw [List.length_map, hq, sizeLine_eq, List.length_drop]; show q + (5 - q) ≤ _; omega
  intro D3 ws3 h3 F3 N3 l3 hI3
  clear F2 N2
  have hI4 : IntsAre ws3 (pgZ ns) := by unfold pgZ; rw [hq]; exact hI3
  replace N3 := newsSub (news' := [(D3, listOf ws3.toArray 0), (z, oz)]) N3 (List.forall_mem_cons.mpr ⟨.head _, List.forall_mem_cons.mpr ⟨by k_mem, List.forall_mem_nil _⟩⟩)
  have l3' := allLt_of l3
  simp only [AllLt] at l3'
  have hzD : @LT.lt Nat _ z D3 := by omega
  clear l3 l3' hI3 hI2 N1 hI1 hL1
  have hz3 : ws3.length = (pgZ ns).length := hI4.length
  have hz5 : (pgZ ns).length ≤ 6 := by have := pgZ_len ns; omega
  k_with "stop" => (with_reducible show wpAny _ _ (exec (Stmt.For _ _ _ _ _) _) _ _ _)
  k_steps
  rename Fr _ _ _ _ => F4
  rename News _ _ _ _ => N4
  refine for_ ?_
  k_with "stop" => (first | (with_reducible show wpAny _ _ (call (Value.builtin "len") _) _ _ _) | (with_reducible show wpAny _ _ (pyIter _) _ _ _))
  k_steps
  refine' lenN N4 ?m ?z ?_
  case m => k_mem
  case z => rw [List.size_toArray]; omega
  intro t5 tk5
  rw [List.size_toArray, hz3]
  k_steps
  rename IsRange _ _ _ _ _ _ _ _ => hr5
  rename Fr _ _ _ _ => F5
  rename News _ _ _ _ => N5
  rename D3 < _ ∧ _ => lwD0
  have lwD := lwD0.1
  refine' forRange (news := [(_, listOf (strValues []).toArray 0), (D3, listOf ws3.toArray 0), (z, oz)]) hr5 (by omega) (by omega) (by omega) rfl rfl (fun i m₁ news₁ => Ex4 fun (lw : Addr) (tt : Tok) (cw : Nat) (l : List (Str × Tok)) => C6 (D3 < lw) (m₁ (Str.ofString "numbers") = some (.ref D3)) (m₁ (Str.ofString "words") = some (.ref lw)) (m₁ (Str.ofString "text") = some (.str (st (txl (pgX ns) i)) tt)) (l.map (·.1) = wds (pgX ns) i) (news₁ = [(lw, listOf (strValues l).toArray cw), (D3, listOf ws3.toArray 0), (z, oz)])) F5 N5 ?hJ ?turn ?done
  case hJ => exact ⟨_, _, _, [], lwD, rfl, rfl, rfl, rfl, rfl⟩
  case turn =>
    rintro I oI i tv m₁ news₁ h6 tk6 hi6 ⟨lw, tt, cw, wv, lwD', e1, e2, e3, e4, rfl⟩ hnI F6 N6
    clear F5 N5 hr5
    rw [Int.zero_add] at hi6 ⊢
    replace F6 := Fr.as F6 [(Str.ofString "numbers", .ref D3), (Str.ofString "words", .ref lw), (Str.ofString "text", .str (st (txl (pgX ns) i)) tt)] (List.forall_mem_cons.mpr ⟨e1, List.forall_mem_cons.mpr ⟨e2, List.forall_mem_cons.mpr ⟨e3, List.forall_mem_nil _⟩⟩⟩)
    clear e1 e2 e3
    have hi7 : i < (pgZ ns).length := by omega
    obtain ⟨x, hx1, hx2, hx3⟩ := pgX_get hi7
    obtain ⟨tx, hx4⟩ := hI4.get i x hx2
    k_with "stop" => (first | (with_reducible show wpAny _ _ (subscriptTail _ _ _ _) _ _ _) | (with_reducible show wpAny _ _ (binaryOp _ (Value.str _ _) _) _ _ _))
    k_steps
    rename News _ _ _ _ => N7
    refine' itemN N7 ?m hx4 (by omega) ?_
    case m => k_mem
    k_with "stop" => (first | (with_reducible show wpAny _ _ (subscriptTail _ _ _ _) _ _ _) | (with_reducible show wpAny _ _ (binaryOp _ _ _) _ _ _))
    k_steps
    refine modS (n := 3) rfl (by omega) ?_
    intro _ _
    refine mulS' (c := 9) (by decide +kernel) rfl (by omega) ?_
    intro t8 tk8
    k_steps
    refine divS (n := 3) rfl (by omega) (by omega) ?_
    intro _ _
    k_steps
    refine modS (n := 4) rfl (by omega) ?_
    intro _ _
    refine mulS' (c := 32) (by decide +kernel) rfl (by omega) ?_
    intro t9 tk9
    k_steps
    refine addS' rfl rfl (by simp; omega) ?_
    intro t10 tk10
    k_steps
    refine itemZ' (l := [97, 98, 99, 100, 101, 102]) (c := 97 + i) (by decide +kernel) (by decide) (by show -(6 : Int) ≤ _; omega) (by show _ < (6 : Int); omega) ?_ ?_
    · rw [if_neg (by omega), Int.toNat_natCast]
      have : i < 6 := by omega
      rcases i with _ | _ | _ | _ | _ | _ | _ <;> first | rfl | omega
    intro t11 tk11
    k_steps
    refine addC (c := wl i x) rfl rfl rfl (by simp; omega) ?_
    intro t12 tk12
    have hnI1 := neN (hnI _ (.head _))
    have hnI2 := neN (hnI _ (.tail _ (.head _)))
    have hnI3 := neN (hnI _ (.tail _ (.tail _ (.head _))))
    dsimp only at hnI1 hnI2 hnI3
    k_lt2 lwD'
    have hwv : wv.length = i := by have := congrArg List.length e4; simpa [wds] using this
    k_with "stop" => (first | (with_reducible show wpAny _ _ (subscriptTail _ _ _ _) _ _ _) | (with_reducible show wpAny _ _ (binaryOp _ _ _) _ _ _) | (with_reducible show wpAny _ _ (pyIter _) _ _ _) | (with_reducible show wpAny _ _ (call (Value.builtin "list.append") _) _ _ _))
    k_steps
    rename News _ _ _ _ => N8
    rename Fr _ _ _ _ => F8
    refine' append_K F8 N8 ?U ?_ ?z
    case U => k_upd
    case z => rw [List.size_toArray, sizeLine_eq]; unfold strValues; rw [List.length_map]; omega
    intro h9 F9 N9
    clear F8 N8
    have ewv : (strValues wv).toArray.push (Value.str (st (wl i x)) t12) = (strValues (wv ++ [(st (wl i x), t12)])).toArray := by unfold strValues; simp
    rw [ewv] at N9
    have hX : (pgX ns).getD i 0 = x := by rw [List.getD_eq_getElem?_getD, hx1]; rfl
    have htl := txl_len (pgX ns) i
    have hwl := wl_len i x
    have e4' : List.map (fun x => x.1) (wv ++ [(st (wl i x), t12)]) = wds (pgX ns) (i + 1) := by
      rw [List.map_append, e4]; unfold wds; rw [List.range_succ, List.map_append, List.map_singleton, List.map_singleton, hX]
    k_with "stop" => (first | (with_reducible show wpAny _ _ (eval (Expr.ListComp _ _ _ _) _) _ _ _) | (with_reducible show wpAny _ _ (binaryOp _ _ _) _ _ _))
    k_steps
    · rename (x : Int) < 12 => hx12
      refine addS' (b := [34]) rfl (by decide +kernel) (by simp; omega) ?_
      intro _ _
      k_steps
      refine addS (by simp; omega) ?_
      intro _ _
      k_steps
      refine addC (b := [34, 10]) (c := txl (pgX ns) (i + 1)) rfl (by decide +kernel) ?_ (by simp; omega) ?_
      · show _ = txl (pgX ns) i ++ enc i ((pgX ns).getD i 0)
        rw [hX]; unfold enc; rw [if_pos (by omega)]; simp
      intro _ _
      k_steps
      rename Fr _ _ _ _ => F10
      rename News _ _ _ _ => N10
      exact ⟨_, _, _, _, rfl, F10, N10, List.forall_mem_cons.mpr ⟨by k_ne, List.forall_mem_cons.mpr ⟨by k_ne, List.forall_mem_cons.mpr ⟨by k_ne, List.forall_mem_nil _⟩⟩⟩, lw, _, _, wv ++ [(st (wl i x), t12)], lwD', rfl, rfl, rfl, e4', rfl⟩
    · rename ¬ ((x : Int) < 12) => hx12
      refine listComp_ (cl := []) rfl rfl (by decide) ?_
      k_steps
      k_with_none
      refine' compStr (m := _) rfl (by rw [sizeLine_eq]; simp; omega) (fun C j ys m₂ news₂ => ∃ l : List (Str × Tok), ys = strValues l ∧ l.map (·.1) = ((wl i x).take j).map (fun c => st [92, c]) ∧ news₂ = [(I, oI), (lw, listOf (strValues (wv ++ [(st (wl i x), t12)])).toArray (cw + 1)), (D3, listOf ws3.toArray 0), (z, oz)]) F9 N9 ?hJ2 ?turn2 ?done2
      case hJ2 => exact fun C _ => ⟨[], rfl, rfl, rfl⟩
      case turn2 =>
        rintro I2 C D oL oI2 j v ys cc mc₁ nw₁ h10 tk10 dc ld iD hj ⟨c, u, hv, rfl⟩ ⟨l2, rfl, hl2, rfl⟩ hap F10 N10
        unfold CompTurn
        k_steps
        refine tests_nil ?_
        rw [if_pos rfl]
        k_steps
        rename Fr _ _ _ _ => F11
        rename News _ _ _ _ => N11
        rw [show Str.ofString "\\" ++ (⟨#[c]⟩ : Str) = st [92, c] by rw [e92]; rfl]
        refine ⟨_, _, _, _, rfl, F11, N11, hap, l2 ++ [(st [92, c], _)], strV_snoc, ?_, rfl⟩
        rw [List.map_append, hl2, List.take_add_one, List.map_append]
        have hv' : (wl i x)[j]? = some c := by simpa using hv
        rw [hv']; rfl
      case done2 =>
        rintro C D ys cc mc₁ nw₁ h10 tk10 dc ld ⟨l2, rfl, hl2, rfl⟩ hap F10 N10
        clear F9 N9
        have hl3 : l2.map (·.1) = (wl i x).map (fun c => st [92, c]) := by rw [hl2]; congr 1; exact List.take_of_length_le (by simp)
        k_with "stop" => (first | (with_reducible show wpAny _ _ (call (Value.builtin "str.join") _) _ _ _) | (with_reducible show wpAny _ _ (binaryOp _ _ _) _ _ _))
        k_steps
        rename News _ _ _ _ => N11
        refine join_madeW (l := wl i x) (g := fun c => st [92, c]) 2 (isListN N11 (.head _)) (by have q := carriedStr l2; rw [hl3] at q; exact q) (fun c _ => Nat.le_refl _) (by omega) (by decide) ?_
        intro t14 tk14
        rw [joinEsc]
        refine addS (by rw [escLen]; omega) ?_
        intro t15 tk15
        k_steps
        refine addC (b := [10]) (c := txl (pgX ns) (i + 1)) rfl (by decide +kernel) ?_ (by rw [List.length_append, escLen]; simp; omega) ?_
        · show _ = txl (pgX ns) i ++ enc i ((pgX ns).getD i 0)
          rw [hX]; unfold enc; rw [if_neg (by omega)]; simp
        intro t16 tk16
        k_steps
        rename Fr _ _ _ _ => F12
        rename News _ _ _ _ => N12
        exact ⟨_, _, _, _, rfl, F12, newsSub N12 (fun p hp => .tail _ hp), List.forall_mem_cons.mpr ⟨by k_ne, List.forall_mem_cons.mpr ⟨by k_ne, List.forall_mem_cons.mpr ⟨by k_ne, List.forall_mem_nil _⟩⟩⟩, lw, _, _, wv ++ [(st (wl i x), t12)], lwD', rfl, rfl, rfl, e4', rfl⟩
  case done =>
    rintro m₁ news₁ h6 tk6 ⟨lw, tt, cw, wv, lwD', e1, e2, e3, e4, rfl⟩ F6 N6
    clear F5 N5 hr5
    replace F6 := Fr.as F6 [(Str.ofString "numbers", .ref D3), (Str.ofString "words", .ref lw), (Str.ofString "text", .str (st (txl (pgX ns) _)) tt)] (List.forall_mem_cons.mpr ⟨e1, List.forall_mem_cons.mpr ⟨e2, List.forall_mem_cons.mpr ⟨e3, List.forall_mem_nil _⟩⟩⟩)
    k_steps
    rename News _ _ _ _ => N7
    rename Fr _ _ _ _ => F7
    have eL : ((pgZ ns).length - 0 : Int).toNat = (pgX ns).length := by unfold pgX; rw [List.length_map]; omega
    rw [eL] at N7 e4
    dsimp only
    have lwD2 := ltN lwD'
    refine' hret _ _ _ lw _ _ wv e4 ?lt (ltN (by omega)) (onOf F7 (newsSub N7 ?sub))
    case sub => exact List.forall_mem_cons.mpr ⟨by k_mem, List.forall_mem_cons.mpr ⟨by k_mem, List.forall_mem_cons.mpr ⟨by k_mem, List.forall_mem_nil _⟩⟩⟩
    case lt => rename lw < _ ∧ _ => hlt; exact hlt.1
end
section
theorem rsMat : True := by w_top off; k_with_none; trivial
open PySem PySem.W PyProof.Rows PySem.Calls PyProof.Rows.LSm
/-- lists of the ledger, row by row -/
inductive RowsAre {α : Type} (P : List Value → List α → Prop) : List (Addr × Obj) → List (List α) → Prop
  | nil : RowsAre P [] []
  | cons {a : Addr} {c : Nat} {vs : List Value} {bs : List α} {rs : List (Addr × Obj)} {M : List (List α)} : P vs bs → RowsAre P rs M → RowsAre P ((a, listOf vs.toArray c) :: rs) (bs :: M)
theorem RowsAre.snoc {α : Type} {P : List Value → List α → Prop} {a : Addr} {c : Nat} {vs : List Value} {bs : List α} {rs : List (Addr × Obj)} {M : List (List α)} (h : RowsAre P rs M) (hb : P vs bs) : RowsAre P (rs ++ [(a, listOf vs.toArray c)]) (M ++ [bs]) := by
  induction h with
  | nil => exact .cons hb .nil
  | cons h' _ ih => exact .cons h' ih
theorem RowsAre.length {α : Type} {P : List Value → List α → Prop} {rs : List (Addr × Obj)} {M : List (List α)} (h : RowsAre P rs M) : rs.length = M.length := by
  induction h with
  | nil => rfl
  | cons _ _ ih => rw [List.length_cons, List.length_cons, ih]
theorem RowsAre.get {α : Type} {P : List Value → List α → Prop} {rs : List (Addr × Obj)} {M : List (List α)} (h : RowsAre P rs M) : ∀ {i : Nat} {bs : List α}, M[i]? = some bs → ∃ a c vs, rs[i]? = some (a, listOf vs.toArray c) ∧ P vs bs := by
  induction h with
  | nil => intro i bs h; cases h
  | @cons a c vs bs' rs M h' _ ih =>
    intro i bs h
    cases i with
    | zero =>
      rw [List.getElem?_cons_zero] at h
      cases h
      exact ⟨a, c, vs, by rw [List.getElem?_cons_zero], h'⟩
    | succ i =>
      rw [List.getElem?_cons_succ] at h
      obtain ⟨a', c', vs', e, r⟩ := ih h
      exact ⟨a', c', vs', by rw [List.getElem?_cons_succ]; exact e, r⟩
abbrev refsOf (rs : List (Addr × Obj)) : List Value := rs.map fun r => Value.ref r.1
theorem refs_snoc {rs : List (Addr × Obj)} {p : Addr × Obj} : refsOf rs ++ [Value.ref p.1] = refsOf (rs ++ [p]) := by simp
theorem refs_snoc' {rs : List (Addr × Obj)} {a : Addr} {o : Obj} : refsOf rs ++ [Value.ref a] = refsOf (rs ++ [(a, o)]) := by simp
theorem IntsAre.snoc {vs : List Value} {ns : List Int} {n : Int} {t : Tok} (h : IntsAre vs ns) : IntsAre (vs ++ [.int n t]) (ns ++ [n]) := h.append (.cons n t .nil)
theorem BoolsAre.snoc {b : Bool} {vs : List Value} {bs : List Bool} (h : BoolsAre vs bs) : BoolsAre (vs ++ [.bool b]) (bs ++ [b]) := by
  induction h with
  | nil => exact .cons b .nil
  | cons a _ ih => exact .cons a ih
theorem BoolsAre.get' {vs : List Value} {bs : List Bool} (h : BoolsAre vs bs) : ∀ {i : Nat} {b : Bool}, bs[i]? = some b → vs[i]? = some (.bool b) := by
  induction h with
  | nil => intro i b h; cases h
  | cons a _ ih =>
    intro i b h
    cases i with
    | zero => rw [List.getElem?_cons_zero] at h ⊢; cases h; rfl
    | succ i => rw [List.getElem?_cons_succ] at h ⊢; exact ih h
theorem BoolsAre.length {vs : List Value} {bs : List Bool} (h : BoolsAre vs bs) : vs.length = bs.length := by
  induction h with
  | nil => rfl
  | cons _ _ ih => rw [List.length_cons, List.length_cons, ih]
theorem apSwap {P : Addr → Prop} {a : Addr} {o o' : Obj} {l : List (Addr × Obj)} (h : ∀ p ∈ (a, o) :: l, P p.1) : ∀ p ∈ (a, o') :: l, P p.1 := by
  intro p hp
  cases hp with
  | head => exact h (a, o) (.head _)
  | tail _ hp => exact h p (.tail _ hp)
theorem allLt_ne {d : Addr} {l : List (Addr × Obj)} : AllLt d l → ∀ q ∈ l, q.1 ≠ d := by
  induction l with
  | nil => intro _ q hq; cases hq
  | cons p l ih =>
    intro h q hq
    rw [AllLt] at h
    cases hq with
    | head => exact Nat.ne_of_lt h.1
    | tail _ hq => exact ih h.2 q hq
end
section
theorem rsCh : True := by w_top off; k_with_none; trivial
open PySem PySem.W PyProof.Rows PySem.Calls PyProof.Rows.LSm
/-- what stands ahead of a place, as bits -/
def bel (M : List (List Bool)) (top k : Nat) : Nat := (((List.range k).filter fun i => (M.getD i []).getD top false).map fun i => 2 ^ i).sum
abbrev Tab := List Nat × List Nat × List Nat
def stepC (b c some : Nat) (T : Tab) : Tab := (T.1 ++ [T.1.getD some 0 + 1], T.2.1 ++ [max (T.2.1.getD some 0) (1 + T.2.1.getD (some &&& b) 0)], T.2.2 ++ [max (T.2.2.getD some 0) (1 + T.2.2.getD (some &&& c) 0)])
def rowC (b c k : Nat) (T : Tab) : Tab := (List.range k).foldl (fun T x => stepC b c x T) T
def tabC (M : List (List Bool)) (n : Nat) : Tab := (List.range n).foldl (fun T top => rowC (bel M top top) (2 ^ top - 1 - bel M top top) (2 ^ top) T) ([0], [0], [0])
theorem rowC_succ {b c k : Nat} {T : Tab} : rowC b c (k + 1) T = stepC b c k (rowC b c k T) := by unfold rowC; rw [List.range_succ, List.foldl_append]; rfl
theorem tabC_succ {M : List (List Bool)} {n : Nat} : tabC M (n + 1) = rowC (bel M n n) (2 ^ n - 1 - bel M n n) (2 ^ n) (tabC M n) := by unfold tabC; rw [List.range_succ, List.foldl_append]; rfl
theorem rowC_len {b c : Nat} {T : Tab} {l : Nat} (h1 : T.1.length = l) (h2 : T.2.1.length = l) (h3 : T.2.2.length = l) : ∀ k, (rowC b c k T).1.length = l + k ∧ (rowC b c k T).2.1.length = l + k ∧ (rowC b c k T).2.2.length = l + k
  | 0 => ⟨h1, h2, h3⟩
  | k + 1 => by
    obtain ⟨a1, a2, a3⟩ := rowC_len h1 h2 h3 k
    rw [rowC_succ]
    unfold stepC
    dsimp only
    rw [List.length_append, List.length_append, List.length_append, a1, a2, a3]
    exact ⟨rfl, rfl, rfl⟩
theorem tabC_len {M : List (List Bool)} : ∀ n, (tabC M n).1.length = 2 ^ n ∧ (tabC M n).2.1.length = 2 ^ n ∧ (tabC M n).2.2.length = 2 ^ n
  | 0 => ⟨rfl, rfl, rfl⟩
  | n + 1 => by
    obtain ⟨a1, a2, a3⟩ := tabC_len (M := M) n
    have := rowC_len (b := bel M n n) (c := 2 ^ n - 1 - bel M n n) a1 a2 a3 (2 ^ n)
    rw [tabC_succ, Nat.pow_succ]
    omega
abbrev nats (l : List Nat) : List Int := l.map Int.ofNat
theorem natsSum (l : List Nat) : (nats l).sum = ((l.sum : Nat) : Int) := by
  induction l with
  | nil => rfl
  | cons a l ih =>
    show (Int.ofNat a :: nats l).sum = _
    rw [List.sum_cons, List.sum_cons, ih]; rfl
theorem bel_lt (M : List (List Bool)) (top : Nat) : ∀ k, bel M top k < 2 ^ k
  | 0 => Nat.zero_lt_one
  | k + 1 => by
    have := bel_lt M top k
    unfold bel at this ⊢
    rw [List.range_succ, List.filter_append, List.map_append, List.sum_append, Nat.pow_succ]
    have : (((List.filter (fun i => (M.getD i []).getD top false) [k]).map fun i => 2 ^ i).sum : Nat) ≤ 2 ^ k := by
      simp only [List.filter_cons, List.filter_nil]
      split <;> simp
    omega
theorem natsGet {vs : List Value} {l : List Nat} {i : Nat} (h : IntsAre vs (nats l)) (hi : i < l.length) : ∃ t, vs[i]? = some (.int ((l.getD i 0 : Nat) : Int) t) := by
  refine h.get i _ ?_
  rw [List.getElem?_map, List.getD_eq_getElem?_getD, List.getElem?_eq_getElem hi]; rfl
theorem andS {prog : Program} {w : World} {A : Around} {E : Value → Shared → Prop} {s : Shared} {x y : Nat} {t u : Tok} {Q : Value → Shared → Prop} (h : ∀ t' k, Q (.int ((x &&& y : Nat) : Int) t') { s with toks := k }) : wpAny (model prog w) A (binaryOp .BitAnd (.int (x : Int) t) (.int (y : Int) u)) Q E s := by
  refine and_int ?_
  have e : Builtin.bitAnd (x : Int) (y : Int) = ((x &&& y : Nat) : Int) := by
    unfold Builtin.bitAnd
    rw [decide_eq_true (Int.natCast_nonneg x), decide_eq_true (Int.natCast_nonneg y)]
    rfl
  rw [e]; exact h _ _
theorem maxS {prog : Program} {w : World} {A : Around} {E : Value → Shared → Prop} {s : Shared} {h₀ : Heap} {L : Addr} {m : Str → Option Value} {news : List (Addr × Obj)} {a b : Nat} {z : Int} {t u : Tok} {Q : Value → Shared → Prop} (hh : A.handled = none) (F : Fr h₀ L s.heap m) (N : News h₀ L s.heap news) (hz : z = ((b : Nat) : Int))
    (h : ∀ h' tk t', Fr h₀ L h' m → News h₀ L h' news → Q (.int ((max a b : Nat) : Int) t') { s with heap := h', toks := tk }) :
    wpAny (model prog w) A (call (.builtin "max") [.int (a : Int) t, .int z u]) Q E s := by
  subst hz
  refine max_two_N hh F N fun h' tk F' N' => ?_
  have e : (if (b : Int) > (a : Int) then (b : Int) else (a : Int)) = ((max a b : Nat) : Int) := by
    split <;> omega
  rw [e]
  exact h _ _ _ F' N'
theorem pushL {vs : List Value} {x : Value} : vs.toArray.push x = (vs ++ [x]).toArray := by simp
theorem lawChoices {w : World} {mean : ExcName → Option Value} {mg mb : Str → Option Value} {A : Around} {g : Heap} {s : Shared} {R : Result → Shared → Prop}
  {D : Addr} {rs : List (Addr × Obj)} {M : List (List Bool)} (O : On g s.heap []) (G : Gr w mean mg mb A 6 g) (hl : g.IsList D (refsOf rs).toArray) (hrs : RowsAre BoolsAre rs M) (hrg : ∀ q ∈ rs, g.get? q.1 = some q.2)
  (hn : M.length ≤ 6) (hM : ∀ r ∈ M, r.length = M.length)
  (hret : ∀ T ls ln lp cs cn cp vs vn vp h' tk', IntsAre vs (nats (tabC M M.length).1) → IntsAre vn (nats (tabC M M.length).2.1) → IntsAre vp (nats (tabC M M.length).2.2) → On g h' [(T, { cls := .type "tuple", data := .seq #[.ref ls, .ref ln, .ref lp] }), (ls, listOf vs.toArray cs), (ln, listOf vn.toArray cn), (lp, listOf vp.toArray cp)] → R (.ok (.ret (.ref T))) { s with heap := h', toks := tk' }) :
  codeAny (model VW w) A (.call (.ref 178) ⟨[.ref D], []⟩) R s := by
  obtain ⟨hdl, dp, fr, gd, un⟩ := A
  obtain rfl : hdl = none := G.hh
  refine' enterC (binds := [(Str.ofString "ahead", .ref D)]) O G ?k6 ?k7 ?k9 ?kB ?kn ?_ ?c2 ?c3 ?c4
  case k6 => k_is
  case k7 => k_is
  case k9 => exact BindsTo.of_eq rfl
  case kB => exact rfl
  case kn => decide
  case c2 => exact rfl
  case c3 => exact rfl
  case c4 => exact rfl
  intro L' h' tk' cells F' N' Y' l1 X' T' G'
  (try dsimp only)
  k_cells Y'
  k_lt l1
  dsimp only [List.cons_append, List.nil_append] at N'
  k_with "stop" => (with_reducible show wpAny _ _ (exec (Stmt.For _ _ _ _ _) _) _ _ _)
  k_steps
  refine for_ ?_
  k_with "stop" => (first | (with_reducible show wpAny _ _ (call (Value.builtin "len") _) _ _ _) | (with_reducible show wpAny _ _ (pyIter _) _ _ _))
  k_steps
  rename Fr _ _ _ _ => F1
  refine lenG F1 hl (by rw [List.size_toArray, List.length_map, hrs.length]; omega) ?_
  intro t1 tk1
  rw [List.size_toArray, List.length_map, hrs.length]
  k_steps
  rename News _ _ _ _ => N2
  rename Fr _ _ _ _ => F2
  rename IsRange _ _ _ _ _ _ _ _ => hr2
  refine' forRange hr2 (by omega) (by omega) (by omega) rfl rfl (fun top m₁ news₁ => Ex12 fun (ls ln lp : Addr) (cs cn cp : Nat) (vs vn vp : List Value) (o1 o2 : Obj) (v₀ : Option Value) => C12 (m₁ (Str.ofString "sizes") = some (.ref ls)) (m₁ (Str.ofString "nests") = some (.ref ln)) (m₁ (Str.ofString "spreads") = some (.ref lp)) (IntsAre vs (nats (tabC M top).1)) (IntsAre vn (nats (tabC M top).2.1)) (IntsAre vp (nats (tabC M top).2.2)) (o1.data = .cell v₀) (o2.data = .cell (some (.ref D))) (L' + 1 + 1 < ls) (ls < ln) (ln < lp) (news₁ = [(lp, listOf vp.toArray cp), (ln, listOf vn.toArray cn), (ls, listOf vs.toArray cs), (L' + 1 + 1, o1), (L' + 1, o2)])) F2 N2 ?hJ ?turn ?done
  case hJ => exact ⟨_, _, _, _, _, _, [_], [_], [_], _, _, _, rfl, rfl, rfl, .cons 0 _ .nil, .cons 0 _ .nil, .cons 0 _ .nil, by assumption, by assumption, ltN (by omega), ltN (by omega), ltN (by omega), rfl⟩
  case turn =>
    rintro I oI top tv m₁ news₁ h6 tk6 hi6 ⟨ls, ln, lp, cs, cn, cp, vs, vn, vp, o1, o2, v₀, e1, e2, e3, hvs, hvn, hvp, hd1, hd2, ll1, ll2, ll3, rfl⟩ hnI F6 N6
    rw [Int.zero_add] at hi6 ⊢
    replace F6 := Fr.as F6 [(Str.ofString "sizes", .ref ls), (Str.ofString "nests", .ref ln), (Str.ofString "spreads", .ref lp)] (List.forall_mem_cons.mpr ⟨e1, List.forall_mem_cons.mpr ⟨e2, List.forall_mem_cons.mpr ⟨e3, List.forall_mem_nil _⟩⟩⟩)
    clear e1 e2 e3
    k_lt2 ll1
    k_lt2 ll2
    k_lt2 ll3
    have hnI1 := neN (hnI _ (.head _))
    have hnI2 := neN (hnI _ (.tail _ (.head _)))
    have hnI3 := neN (hnI _ (.tail _ (.tail _ (.head _))))
    have hnI4 := neN (hnI _ (.tail _ (.tail _ (.tail _ (.head _)))))
    have hnI5 := neN (hnI _ (.tail _ (.tail _ (.tail _ (.tail _ (.head _))))))
    dsimp only at hnI1 hnI2 hnI3 hnI4 hnI5
    k_with "stop" => (with_reducible show wpAny _ _ (eval (Expr.ListComp _ _ _ _) _) _ _ _)
    k_steps
    rename Fr _ _ _ _ => F7
    rename News _ _ _ _ => N7
    rename Obj => o3
    refine listComp_ (cl := [(Str.ofString "top", L' + 1 + 1), (Str.ofString "ahead", L' + 1)]) rfl rfl (by decide) ?_
    k_steps
    rename Fr _ _ _ _ => F8
    rename News _ _ _ _ => N8
    rename IsRange _ _ _ _ _ _ _ _ => hr8
    have hol1 : ∃ L4, L4 = [(I, oI), (lp, listOf vp.toArray cp), (ln, listOf vn.toArray cn), (ls, listOf vs.toArray cs), (L' + 1 + 1, o3), (L' + 1, o2)] := ⟨_, rfl⟩
    obtain ⟨L4, hL4⟩ := hol1
    rw [← hL4] at N8
    refine' compRange (m := _) hr8 (by omega) (by omega) (by omega) rfl (fun C3 k ys m₂ news₂ => IntsAre ys (nats (((List.range k).filter fun i => (M.getD i []).getD top false).map fun i => 2 ^ i)) ∧ news₂ = L4) F8 N8 ?hJ5 ?turn5 ?done5
    case hJ5 => exact fun C3 _ => ⟨.nil, rfl⟩
    case turn5 =>
      rintro I3 C3 D3 oL3 oI3 k tv3 ys4 cc4 mc₃ nw₃ h17 tk17 dc4 ld4 iD4 hk ⟨hys4, rfl⟩ hap3 F17 N17
      rw [Int.zero_add] at hk ⊢
      subst hL4
      unfold CompTurn
      have hk6 : k < M.length := by omega
      have ht6 : top < M.length := by omega
      obtain ⟨row, hrow⟩ : ∃ row, M[k]? = some row := ⟨_, List.getElem?_eq_getElem hk6⟩
      obtain ⟨ar, cr, vr, hr1, hP1⟩ := hrs.get hrow
      have hlr : row.length = M.length := hM row (List.mem_of_getElem? hrow)
      obtain ⟨bt, hbt⟩ : ∃ bt, row[top]? = some bt := ⟨_, List.getElem?_eq_getElem (by omega)⟩
      have hgr : g.IsList ar vr.toArray := ⟨_, hrg _ (List.mem_of_getElem? hr1), rfl, cr, rfl⟩
      k_with "stop" => (first | (with_reducible show wpAny _ _ (tests _ _) _ _ _) | (with_reducible show wpAny _ _ (subscriptTail _ _ _ _) _ _ _))
      k_steps
      refine tests_one ?_
      k_steps
      rename Fr _ _ _ _ => F18
      rename News _ _ _ _ => N18
      refine itemG F18 hl (v := .ref ar) (by rw [List.getElem?_map, hr1]; rfl) (by omega) ?_
      k_steps
      refine kba_turn (value' := Expr.Name (Str.ofString "_") ⟨0, 0, 0, 0⟩) (fun _ => rfl) ?_
      refine itemG F18 hgr (v := .bool bt) (BoolsAre.get' hP1 hbt) (by omega) ?_
      refine wpAny_truthy_bool ?_
      have hfl : ((List.range (k + 1)).filter fun i => (M.getD i []).getD top false) = ((List.range k).filter fun i => (M.getD i []).getD top false) ++ (if bt = true then [k] else []) := by
        rw [List.range_succ, List.filter_append]
        congr 1
        have e : (M.getD k []).getD top false = bt := by rw [List.getD_eq_getElem?_getD, List.getD_eq_getElem?_getD, hrow]; simp [hbt]
        simp only [List.filter_cons, List.filter_nil, e]
      cases bt with
      | false =>
        rw [if_neg (by decide)]
        rw [if_neg (by decide), List.append_nil] at hfl
        refine ⟨_, _, _, _, rfl, F18, N18, hap3, ?_, rfl⟩
        rw [hfl]; exact hys4
      | true =>
        rw [if_pos rfl]
        rw [if_pos rfl] at hfl
        k_steps
        rename Fr _ _ _ _ => F19
        rename News _ _ _ _ => N19
        refine ⟨_, _, _, _, rfl, F19, N19, hap3, ?_, rfl⟩
        rw [hfl, List.map_append, nats, List.map_append]
        rw [show ((2 : Int) ^ ((k : Int).toNat)) = Int.ofNat (2 ^ k) by rw [Int.toNat_natCast]; exact (Int.natCast_pow 2 k).symm]
        exact IntsAre.snoc hys4
    case done5 =>
      rintro C3 D3 ys4 cc4 mc₃ nw₃ h17 tk17 dc4 ld4 ⟨hys4, rfl⟩ hap3 F17 N17
      have e0 : ((top : Int) - 0).toNat = top := by omega
      rw [e0] at hys4
      k_with "stop" => (with_reducible show wpAny _ _ (call (Value.builtin "sum") _) _ _ _)
      k_steps
      refine sum_ints F17 N17 rfl (isListN N17 (.head _)) hys4 ?_
      intro h18 tk18 t18 F18 N18
      subst hL4
      clear F17 N17
      have hsum : (nats (((List.range top).filter fun i => (M.getD i []).getD top false).map fun i => 2 ^ i)).sum = ((bel M top top : Nat) : Int) := by
        rw [natsSum]; rfl
      rw [hsum]
      have hble := bel_lt M top top
      k_with "nolet" => skip
      k_with "stop" => (with_reducible show wpAny _ _ (exec (Stmt.For _ _ _ _ _) _) _ _ _)
      k_steps
      rename Fr _ _ _ _ => F19
      rename News _ _ _ _ => N19
      have hp2 : (2 : Int) ^ ((top : Int).toNat) = ((2 ^ top : Nat) : Int) := by rw [Int.toNat_natCast]; exact (Int.natCast_pow 2 top).symm
      have hp3 : 2 ^ top ≤ 2 ^ 6 := Nat.pow_le_pow_right (by decide) (by omega)
      have hbs : (2 : Int) ^ ((top : Int).toNat) - 1 - ((bel M top top : Nat) : Int) = ((2 ^ top - 1 - bel M top top : Nat) : Int) := by rw [hp2]; omega
      rw [hbs] at F19
      clear hap3 hys4 hsum hbs
      generalize hbb : bel M top top = bb at F19 hble
      generalize hcc : 2 ^ top - 1 - bb = cb at F19
      refine for_ ?_
      k_with "stop" => (with_reducible show wpAny _ _ (pyIter _) _ _ _)
      k_steps
      rename IsRange _ _ _ _ _ _ _ _ => hr20
      rename Fr _ _ _ _ => F20
      rename News _ _ _ _ => N20
      rw [hp2] at hr20
      have N20' := newsSub (news' := [(I, oI), (lp, listOf vp.toArray cp), (ln, listOf vn.toArray cn), (ls, listOf vs.toArray cs), (L' + 1 + 1, o3), (L' + 1, o2)]) N20 (fun q hq => .tail _ hq)
      have hTl := tabC_len (M := M) top
      refine' forRange hr20 (by omega) (by omega) (by omega) rfl rfl (fun k m₁ news₁ => Ex8 fun (cs cn cp : Nat) (vs vn vp : List Value) (t1 t2 : Tok) => C9 (m₁ (Str.ofString "sizes") = some (.ref ls)) (m₁ (Str.ofString "nests") = some (.ref ln)) (m₁ (Str.ofString "spreads") = some (.ref lp)) (m₁ (Str.ofString "below") = some (.int (bb : Nat) t1)) (m₁ (Str.ofString "beside") = some (.int (cb : Nat) t2)) (IntsAre vs (nats (rowC bb cb k (tabC M top)).1)) (IntsAre vn (nats (rowC bb cb k (tabC M top)).2.1)) (IntsAre vp (nats (rowC bb cb k (tabC M top)).2.2)) (news₁ = [(I, oI), (lp, listOf vp.toArray cp), (ln, listOf vn.toArray cn), (ls, listOf vs.toArray cs), (L' + 1 + 1, o3), (L' + 1, o2)])) F20 N20' ?hJ6 ?turn6 ?done6
      case hJ6 => exact ⟨_, _, _, _, _, _, _, _, rfl, rfl, rfl, rfl, rfl, hvs, hvn, hvp, rfl⟩
      case turn6 =>
        clear F20 N20 N20' hvs hvn hvp
        rintro I2 oI2 k tv2 m₂ news₂ h21 tk21 hk ⟨cs, cn, cp, vs, vn, vp, t1, t2, e1, e2, e3, e4, e5, hvs, hvn, hvp, rfl⟩ hnJ F21 N21
        rw [Int.zero_add] at hk ⊢
        replace F21 := Fr.as F21 [(Str.ofString "sizes", .ref ls), (Str.ofString "nests", .ref ln), (Str.ofString "spreads", .ref lp), (Str.ofString "below", .int (bb : Nat) t1), (Str.ofString "beside", .int (cb : Nat) t2)] (List.forall_mem_cons.mpr ⟨e1, List.forall_mem_cons.mpr ⟨e2, List.forall_mem_cons.mpr ⟨e3, List.forall_mem_cons.mpr ⟨e4, List.forall_mem_cons.mpr ⟨e5, List.forall_mem_nil _⟩⟩⟩⟩⟩)
        clear e1 e2 e3 e4 e5
        have hnJ0 := neN (hnJ _ (.head _))
        have hnJ1 := neN (hnJ _ (.tail _ (.head _)))
        have hnJ2 := neN (hnJ _ (.tail _ (.tail _ (.head _))))
        have hnJ3 := neN (hnJ _ (.tail _ (.tail _ (.tail _ (.head _)))))
        have hnJ4 := neN (hnJ _ (.tail _ (.tail _ (.tail _ (.tail _ (.head _))))))
        have hnJ5 := neN (hnJ _ (.tail _ (.tail _ (.tail _ (.tail _ (.tail _ (.head _)))))))
        dsimp only at hnJ0 hnJ1 hnJ2 hnJ3 hnJ4 hnJ5
        have hk2 : k < 2 ^ top := by omega
        have hRl := rowC_len (b := bb) (c := cb) hTl.1 hTl.2.1 hTl.2.2 k
        k_with "stop" => (first | (with_reducible show wpAny _ _ (subscriptTail _ _ _ _) _ _ _) | (with_reducible show wpAny _ _ (call (Value.builtin "list.append") _) _ _ _) | (with_reducible show wpAny _ _ (binaryOp .BitAnd _ _) _ _ _) | (with_reducible show wpAny _ _ (call (Value.builtin "max") _) _ _ _))
        k_steps
        obtain ⟨q1, hq1⟩ := natsGet (i := k) hvs (by omega)
        obtain ⟨q2, hq2⟩ := natsGet (i := k) hvn (by omega)
        obtain ⟨q3, hq3⟩ := natsGet (i := k) hvp (by omega)
        have hab : k &&& bb < 2 ^ top + k := Nat.lt_of_le_of_lt Nat.and_le_left (by omega)
        have hac : k &&& cb < 2 ^ top + k := Nat.lt_of_le_of_lt Nat.and_le_left (by omega)
        obtain ⟨q4, hq4⟩ := natsGet (i := k &&& bb) hvn (by omega)
        obtain ⟨q5, hq5⟩ := natsGet (i := k &&& cb) hvp (by omega)
        rename News _ _ _ _ => N22
        have hsz1 := hvs.length
        have hsz2 := hvn.length
        have hsz3 := hvp.length
        rw [List.length_map] at hsz1 hsz2 hsz3
        refine itemN N22 (c := cs) (by k_mem) hq1 (by omega) ?_
        k_steps
        rename News _ _ _ _ => N23
        rename Fr _ _ _ _ => F23
        refine' append_K F23 N23 ?U1 ?_ ?z1
        case U1 => k_upd
        case z1 => rw [List.size_toArray, sizeLine_eq]; omega
        intro h24 F24 N24
        clear F23 N23
        k_steps
        rename News _ _ _ _ => N25
        refine itemN N25 (c := cn) (by k_mem) hq2 (by omega) ?_
        k_steps
        refine andS ?_
        intro _ _
        refine itemN N25 (c := cn) (by k_mem) hq4 (by omega) ?_
        k_steps
        rename News _ _ _ _ => N26
        rename Fr _ _ _ _ => F26
        refine maxS (b := 1 + (rowC bb cb k (tabC M top)).2.1.getD (k &&& bb) 0) rfl F26 N26 (by omega) ?_
        intro h27 tk27 t27 F27 N27
        clear F26 N26
        k_steps
        refine' append_K F27 N27 ?U2 ?_ ?z2
        case U2 => k_upd
        case z2 => rw [List.size_toArray, sizeLine_eq]; omega
        intro h28 F28 N28
        clear F27 N27
        k_steps
        rename News _ _ _ _ => N29
        refine itemN N29 (c := cp) (by k_mem) hq3 (by omega) ?_
        k_steps
        refine andS ?_
        intro _ _
        refine itemN N29 (c := cp) (by k_mem) hq5 (by omega) ?_
        k_steps
        rename News _ _ _ _ => N30
        rename Fr _ _ _ _ => F30
        refine maxS (b := 1 + (rowC bb cb k (tabC M top)).2.2.getD (k &&& cb) 0) rfl F30 N30 (by omega) ?_
        intro h31 tk31 t31 F31 N31
        clear F30 N30
        k_steps
        refine' append_K F31 N31 ?U3 ?_ ?z3
        case U3 => k_upd
        case z3 => rw [List.size_toArray, sizeLine_eq]; omega
        intro h32 F32 N32
        clear F31 N31
        k_steps
        rw [pushL, pushL, pushL] at N32
        refine ⟨_, _, _, _, rfl, F32, N32, List.forall_mem_cons.mpr ⟨hnJ0, List.forall_mem_cons.mpr ⟨hnJ1, List.forall_mem_cons.mpr ⟨hnJ2, List.forall_mem_cons.mpr ⟨hnJ3, List.forall_mem_cons.mpr ⟨hnJ4, List.forall_mem_cons.mpr ⟨hnJ5, List.forall_mem_nil _⟩⟩⟩⟩⟩⟩, _, _, _, _, _, _, _, _, rfl, rfl, rfl, rfl, rfl, ?_, ?_, ?_, rfl⟩
        · rw [rowC_succ, stepC, nats, List.map_append]
          exact IntsAre.snoc hvs
        · rw [rowC_succ, stepC, nats, List.map_append]
          exact IntsAre.snoc hvn
        · rw [rowC_succ, stepC, nats, List.map_append]
          exact IntsAre.snoc hvp
      case done6 =>
        clear F20 N20 N20' hvs hvn hvp
        rintro m₂ news₂ h21 tk21 ⟨cs, cn, cp, vs, vn, vp, t1, t2, e1, e2, e3, e4, e5, hvs, hvn, hvp, rfl⟩ F21 N21
        have ek : (((2 ^ top : Nat) : Int) - 0).toNat = 2 ^ top := by omega
        rw [ek] at hvs hvn hvp
        k_steps
        refine ⟨_, _, _, _, rfl, F21, N21, List.forall_mem_cons.mpr ⟨hnI1, List.forall_mem_cons.mpr ⟨hnI2, List.forall_mem_cons.mpr ⟨hnI3, List.forall_mem_cons.mpr ⟨hnI4, List.forall_mem_cons.mpr ⟨hnI5, List.forall_mem_nil _⟩⟩⟩⟩⟩, ls, ln, lp, _, _, _, vs, vn, vp, o3, o2, _, e1, e2, e3, ?_, ?_, ?_, by assumption, hd2, ll1, ll2, ll3, rfl⟩
        · rw [tabC_succ, hbb, hcc]; exact hvs
        · rw [tabC_succ, hbb, hcc]; exact hvn
        · rw [tabC_succ, hbb, hcc]; exact hvp
  case done =>
    rintro m₁ news₁ h6 tk6 ⟨ls, ln, lp, cs, cn, cp, vs, vn, vp, o1, o2, v₀, e1, e2, e3, hvs, hvn, hvp, hd1, hd2, ll1, ll2, ll3, rfl⟩ F6 N6
    have ek : ((M.length : Int) - 0).toNat = M.length := by omega
    rw [ek] at hvs hvn hvp
    replace F6 := Fr.as F6 [(Str.ofString "sizes", .ref ls), (Str.ofString "nests", .ref ln), (Str.ofString "spreads", .ref lp)] (List.forall_mem_cons.mpr ⟨e1, List.forall_mem_cons.mpr ⟨e2, List.forall_mem_cons.mpr ⟨e3, List.forall_mem_nil _⟩⟩⟩)
    k_steps
    rename News _ _ _ _ => N7
    rename Fr _ _ _ _ => F7
    refine' hret _ ls ln lp cs cn cp vs vn vp _ _ hvs hvn hvp (onOf F7 (newsSub N7 ?sub))
    case sub => exact List.forall_mem_cons.mpr ⟨by k_mem, List.forall_mem_cons.mpr ⟨by k_mem, List.forall_mem_cons.mpr ⟨by k_mem, List.forall_mem_cons.mpr ⟨by k_mem, List.forall_mem_nil _⟩⟩⟩⟩
end
section
theorem rsBis : True := by w_top off; k_with_none; trivial
open PySem PySem.W PyProof.Rows PySem.Calls

theorem bisLeft {w : World} {mean : ExcName → Option Value} {mg mb : Str → Option Value} {A : Around} {g : Heap} {s : Shared} {R : Result → Shared → Prop}
  {l fl : Addr} {items : Array Value} {x : Int} {tx : Tok} {ks : Nat → Int} {r : Nat}
  (O : On g s.heap []) (G : Gr w mean mg mb A 6 g)
  (hl : g.IsList l items) (hsz : items.size ≤ 1000) (hf : FnAt fl g) (hK : KeyC w g fl items (fun i v _ => ∃ t, v = .int (ks i) t))
  (hr : r ≤ items.size) (hlt : ∀ i, i < items.size → (ks i < x ↔ i < r))
  (hret : ∀ t h' tk', On g h' [] → R (.ok (.ret (.int r t))) { s with heap := h', toks := tk' }) :
  codeAny (model VW w) A (.call (.ref 48) ⟨[.ref l, .int x tx], [(Str.ofString "key", .ref fl)]⟩) R s := by
  refine' enterK O G ?k6 ?k7 ?k9 ?kB ?_ ?c2 ?c3 ?c4 ?c5
  case k6 => k_is
  case k7 => k_is
  case k9 => exact binds_K (binds := [(Str.ofString "a", .ref l), (Str.ofString "x", .int x tx), (Str.ofString "lo", .int 0 _), (Str.ofString "hi", .none), (Str.ofString "key", .ref fl)]) (G.X.keeps O.keep) rfl (by k_is) rfl rfl rfl
  case c5 => decide
  case kB => exact locs rfl
  case c2 => exact rfl
  case c3 => exact rfl
  case c4 => exact rfl
  intro L' h' F' N' l1 X' T' G'
  (try dsimp only)
  k_with "stop" => (with_reducible show wpAny _ _ (exec (Stmt.While _ _ _ _) _) _ _ _)
  k_steps
  rename Fr _ _ _ _ => F1
  rename News _ _ _ _ => N1
  refine While_inv2 (fun n m₁ news₁ => news₁ = [] ∧ Ex4 fun (lo hi : Nat) (t1 t2 : Tok) => C9 (m₁ (Str.ofString "lo") = some (.int lo t1)) (m₁ (Str.ofString "hi") = some (.int hi t2)) (m₁ (Str.ofString "a") = some (.ref l)) (m₁ (Str.ofString "x") = some (.int x tx)) (m₁ (Str.ofString "key") = some (.ref fl)) (lo ≤ r) (r ≤ hi) (hi ≤ items.size) (n = hi - lo)) (n₀ := items.size) F1 N1 ⟨rfl, 0, items.size, _, _, rfl, rfl, rfl, rfl, rfl, by omega, by omega, by omega, by omega⟩ ?_ PassesOwn.never
  rintro n m₁ news₁ h₁ tk₁ F2 N2 ⟨rfl, lo, hi, t1, t2, e1, e2, e3, e4, e5, b1, b2, b3, rfl⟩
  clear F1 N1
  replace F2 := Fr.as F2 [(Str.ofString "lo", .int lo t1), (Str.ofString "hi", .int hi t2), (Str.ofString "a", .ref l), (Str.ofString "x", .int x tx), (Str.ofString "key", .ref fl)] (by simp [e1, e2, e3, e4, e5])
  clear e1 e2 e3 e4 e5
  k_with "nolet" => skip
  k_with "stop" => (with_reducible show wpAny _ _ (subscriptTail _ _ _ _) _ _ _)
  k_steps
  · rename Fr _ _ _ _ => F3
    rename News _ _ _ _ => N3
    rename ((_ : Int) < _) => hlt0
    have e0 : ((lo : Int) + hi).fdiv 2 = ((lo + hi) / 2 : Nat) := by rw [Int.fdiv_eq_ediv_of_nonneg _ (by omega)]; omega
    obtain ⟨v, hv⟩ : ∃ v, items[(lo + hi) / 2]? = some v := ⟨items[(lo + hi) / 2]'(by omega), by simp⟩
    rw [e0] at F3 ⊢
    refine item_list (x := v) (Fr.lst F3 hl) (by omega) (by omega) (by rw [Int.toNat_natCast]; exact hv) ?_
    k_with "stop" => (with_reducible show wpAny _ _ (call (Value.ref _) _) _ _ _)
    k_steps
    refine wpAny_call (hK _ _ _ ((lo + hi) / 2) v hv F3.keep (onOf F3 N3).size (by have := G'.room; omega) (by have := G'.units; omega) G'.hh ?_)
    rintro v' h4 tk4 st4 ⟨t4, rfl⟩
    dsimp only
    have F4 := frGrow F3 st4
    have N4 := newsGrow N3 st4
    clear F3 N3 st4
    have hlt' := hlt ((lo + hi) / 2) (by omega)
    k_steps
    · rename Fr _ _ _ _ => F5
      rename News _ _ _ _ => N5
      exact ⟨_, _, _, _, _, rfl, F5, N5, by omega, rfl, (lo + hi) / 2 + 1, hi, _, _, rfl, rfl, rfl, rfl, rfl, by omega, by omega, by omega, rfl⟩
    · rename Fr _ _ _ _ => F5
      rename News _ _ _ _ => N5
      exact ⟨_, _, _, _, _, rfl, F5, N5, by omega, rfl, lo, (lo + hi) / 2, _, _, rfl, rfl, rfl, rfl, rfl, by omega, by omega, by omega, rfl⟩
  · obtain rfl : lo = r := by omega
    exact hret _ _ _ (onOf F2 N2)
theorem bisRight {w : World} {mean : ExcName → Option Value} {mg mb : Str → Option Value} {A : Around} {g : Heap} {s : Shared} {R : Result → Shared → Prop}
  {l fl : Addr} {items : Array Value} {xv : Value} {Kv : Nat → Value → Heap → Prop} {lt : Nat → Bool} {r : Nat} {args : Args} {tl : Tok}
  (hargs : (args = ⟨[.ref l, xv], [(Str.ofString "key", .ref fl)]⟩ ∧ tl = 209) ∨ args = ⟨[.ref l, xv, .int 0 tl, .none], [(Str.ofString "key", .ref fl)]⟩)
  (O : On g s.heap []) (G : Gr w mean mg mb A 6 g)
  (hl : g.IsList l items) (hsz : items.size ≤ 1000) (hf : FnAt fl g) (hK : KeyC w g fl items Kv)
  (hcmp : ∀ (A : Around) (s : Shared) (Q : Value → Shared → Prop) (i : Nat) (v : Value), i < items.size → g.StaysIn s.heap → Kv i v s.heap → A.units + 20 < cLine → A.handled = none → (∀ h' tk', s.heap.StaysIn h' → Q (.bool (lt i)) { s with heap := h', toks := tk' }) → wpAny (model VW w) A (compareOp .Lt xv v) Q (fun _ _ => False) s)
  (hr : r ≤ items.size) (hlt : ∀ i, i < items.size → (lt i = true ↔ r ≤ i))
  (hret : ∀ t h' tk', On g h' [] → R (.ok (.ret (.int r t))) { s with heap := h', toks := tk' }) :
  codeAny (model VW w) A (.call (.ref 39) args) R s := by
  refine' enterK (binds := [(Str.ofString "a", .ref l), (Str.ofString "x", xv), (Str.ofString "lo", .int 0 tl), (Str.ofString "hi", .none), (Str.ofString "key", .ref fl)]) O G ?k6 ?k7 ?k9 ?kB ?_ ?c2 ?c3 ?c4 ?c5
  case k6 => k_is
  case k7 => k_is
  case k9 =>
    rcases hargs with ⟨rfl, rfl⟩ | rfl
    · exact binds_K (binds := [(Str.ofString "a", .ref l), (Str.ofString "x", xv), (Str.ofString "lo", .int 0 209), (Str.ofString "hi", .none), (Str.ofString "key", .ref fl)]) (G.X.keeps O.keep) rfl (by k_is) rfl rfl rfl
    · exact binds_K (binds := [(Str.ofString "a", .ref l), (Str.ofString "x", xv), (Str.ofString "lo", .int 0 tl), (Str.ofString "hi", .none), (Str.ofString "key", .ref fl)]) (G.X.keeps O.keep) rfl (by k_is) rfl rfl rfl
  case c5 => decide
  case kB => exact locs rfl
  case c2 => exact rfl
  case c3 => exact rfl
  case c4 => exact rfl
  intro L' h' F' N' l1 X' T' G'
  (try dsimp only)
  k_with "stop" => (with_reducible show wpAny _ _ (exec (Stmt.While _ _ _ _) _) _ _ _)
  k_steps
  rename Fr _ _ _ _ => F1
  rename News _ _ _ _ => N1
  refine While_inv2 (fun n m₁ news₁ => news₁ = [] ∧ Ex4 fun (lo hi : Nat) (t1 t2 : Tok) => C9 (m₁ (Str.ofString "lo") = some (.int lo t1)) (m₁ (Str.ofString "hi") = some (.int hi t2)) (m₁ (Str.ofString "a") = some (.ref l)) (m₁ (Str.ofString "x") = some (xv)) (m₁ (Str.ofString "key") = some (.ref fl)) (lo ≤ r) (r ≤ hi) (hi ≤ items.size) (n = hi - lo)) (n₀ := items.size) F1 N1 ⟨rfl, 0, items.size, _, _, rfl, rfl, rfl, rfl, rfl, by omega, by omega, by omega, by omega⟩ ?_ PassesOwn.never
  rintro n m₁ news₁ h₁ tk₁ F2 N2 ⟨rfl, lo, hi, t1, t2, e1, e2, e3, e4, e5, b1, b2, b3, rfl⟩
  clear F1 N1
  replace F2 := Fr.as F2 [(Str.ofString "lo", .int lo t1), (Str.ofString "hi", .int hi t2), (Str.ofString "a", .ref l), (Str.ofString "x", xv), (Str.ofString "key", .ref fl)] (by simp [e1, e2, e3, e4, e5])
  clear e1 e2 e3 e4 e5
  k_with "nolet" => skip
  k_with "stop" => (with_reducible show wpAny _ _ (subscriptTail _ _ _ _) _ _ _)
  k_steps
  · rename Fr _ _ _ _ => F3
    rename News _ _ _ _ => N3
    rename ((_ : Int) < _) => hlt0
    have e0 : ((lo : Int) + hi).fdiv 2 = ((lo + hi) / 2 : Nat) := by rw [Int.fdiv_eq_ediv_of_nonneg _ (by omega)]; omega
    obtain ⟨v, hv⟩ : ∃ v, items[(lo + hi) / 2]? = some v := ⟨items[(lo + hi) / 2]'(by omega), by simp⟩
    rw [e0] at F3 ⊢
    refine item_list (x := v) (Fr.lst F3 hl) (by omega) (by omega) (by rw [Int.toNat_natCast]; exact hv) ?_
    k_with "stop" => (with_reducible show wpAny _ _ (call (Value.ref _) _) _ _ _)
    k_steps
    refine wpAny_call (hK _ _ _ ((lo + hi) / 2) v hv F3.keep (onOf F3 N3).size (by have := G'.room; omega) (by have := G'.units; omega) G'.hh ?_)
    intro v' h4 tk4 st4 hv'
    dsimp only
    have F4 := frGrow F3 st4
    have N4 := newsGrow N3 st4
    clear F3 N3 st4
    have hlt' := hlt ((lo + hi) / 2) (by omega)
    refine hcmp _ _ _ ((lo + hi) / 2) v' (by omega) F4.keep hv' (by have := G'.units; omega) G'.hh ?_
    intro h5 tk5 st5
    have F5 := frGrow F4 st5
    have N5 := newsGrow N4 st5
    clear F4 N4 st5 hv'
    dsimp only
    cases hb : lt ((lo + hi) / 2) <;> rw [hb] at hlt'
    · k_steps
      rename Fr _ _ _ _ => F6
      rename News _ _ _ _ => N6
      have : (lo + hi) / 2 < r := by simp at hlt'; omega
      exact ⟨_, _, _, _, _, rfl, F6, N6, by omega, rfl, (lo + hi) / 2 + 1, hi, _, _, rfl, rfl, rfl, rfl, rfl, by omega, by omega, by omega, rfl⟩
    · k_steps
      rename Fr _ _ _ _ => F6
      rename News _ _ _ _ => N6
      have : r ≤ (lo + hi) / 2 := by simpa using hlt'
      exact ⟨_, _, _, _, _, rfl, F6, N6, by omega, rfl, lo, (lo + hi) / 2, _, _, rfl, rfl, rfl, rfl, rfl, by omega, by omega, by omega, rfl⟩
  · obtain rfl : lo = r := by omega
    exact hret _ _ _ (onOf F2 N2)
end
section
theorem rsIns : True := by w_top off; k_with_none; trivial
open PySem PySem.W PyProof.Rows PySem.Calls
theorem KeyC.keeps {w : World} {g g' : Heap} {fl : Addr} {items : Array Value} {Kv : Nat → Value → Heap → Prop} (h : KeyC w g fl items Kv) (st : g.StaysIn g') (hs : g.objs.size ≤ g'.objs.size) : KeyC w g' fl items Kv :=
  fun A s R i v hv k ks hd hu hh hr => h A s R i v hv (fun b o e => k b o (st b o e)) (Nat.le_trans hs ks) hd hu hh hr

theorem insort {w : World} {mean : ExcName → Option Value} {mg mb : Str → Option Value} {A : Around} {g : Heap} {s : Shared} {R : Result → Shared → Prop}
  {l fl : Addr} {items : List Value} {c : Nat} {x : Value} {Kv : Nat → Value → Heap → Prop} {Kx : Value → Heap → Prop} {lt : Nat → Bool} {r : Nat}
  (O : On g s.heap [(l, listOf items.toArray c)]) (G : Gr w mean mg mb A 10 g)
  (hsz : items.length ≤ 900) (hf : FnAt fl g) (hK : KeyC w g fl items.toArray Kv) (hKx : KeyC w g fl #[x] (fun _ => Kx))
  (kst : ∀ v h h', Kx v h → h.StaysIn h' → Kx v h')
  (hcmp : ∀ (xv : Value) (g' : Heap), Kx xv g' → ∀ (A : Around) (s : Shared) (Q : Value → Shared → Prop) (i : Nat) (v : Value), i < items.length → g'.StaysIn s.heap → Kv i v s.heap → A.units + 20 < cLine → A.handled = none → (∀ h' tk', s.heap.StaysIn h' → Q (.bool (lt i)) { s with heap := h', toks := tk' }) → wpAny (model VW w) A (compareOp .Lt xv v) Q (fun _ _ => False) s)
  (hr : r ≤ items.length) (hlt : ∀ i, i < items.length → (lt i = true ↔ r ≤ i))
  (hret : ∀ h' tk' c', On g h' [(l, listOf (items.take r ++ x :: items.drop r).toArray c')] → R (.ok (.ret .none)) { s with heap := h', toks := tk' }) :
  codeAny (model VW w) A (.call (.ref 30) ⟨[.ref l, x], [(Str.ofString "key", .ref fl)]⟩) R s := by
  refine' enterK (binds := [(Str.ofString "a", .ref l), (Str.ofString "x", x), (Str.ofString "lo", .int 0 196), (Str.ofString "hi", .none), (Str.ofString "key", .ref fl)]) O G ?k6 ?k7 ?k9 ?kB ?_ ?c2 ?c3 ?c4 ?c5
  case k6 => k_is
  case k7 => k_is
  case k9 => exact binds_K (binds := [(Str.ofString "a", .ref l), (Str.ofString "x", x), (Str.ofString "lo", .int 0 196), (Str.ofString "hi", .none), (Str.ofString "key", .ref fl)]) (G.X.keeps O.keep) rfl (by k_is) rfl rfl rfl
  case c5 => decide
  case kB => exact locs rfl
  case c2 => exact rfl
  case c3 => exact rfl
  case c4 => exact rfl
  intro L' h' F' N' l1 X' T' G'
  (try dsimp only)
  k_with "stop" => (with_reducible show wpAny _ _ (call (Value.ref _) _ _) _ _ _)
  k_steps
  refine wpAny_call (hKx _ _ _ 0 x rfl F'.keep (onOf F' N').size (by have := G'.room; omega) (by have := G'.units; omega) G'.hh ?_)
  intro xv h1 tk1 st1 hx1
  have F1 := frGrow F' st1
  have N1 := newsGrow N' st1
  clear F' N' st1
  dsimp only
  k_steps
  refine callOn F1 N1 [] [(l, listOf items.toArray c)] (fun _ h => nomatch h) (fun _ h => h) (fun _ _ _ h => nomatch h) (fun g' st' sz' O' hg' hk' => ?_)
  have hl' : g'.IsList l items.toArray := ⟨_, hg' _ (.head _), rfl, c, rfl⟩
  have hkx : Kx xv g' := kst _ _ _ hx1 (fun b o e => hk' b o e (fun _ h => nomatch h))
  refine bisRight (lt := lt) (r := r) (.inr rfl) O' ((G'.keeps st').le (by omega)) hl' (by simp; omega) (fnAt_keep hf st') (hK.keeps st' sz') (fun A s Q i v hi => hcmp xv g' hkx A s Q i v (by simpa using hi)) (by simpa using hr) (fun i hi => hlt i (by simpa using hi)) ?_
  intro t2 h2 tk2 O2
  refine ⟨_, h2, tk2, [], rfl, rfl, O2, fun F2 N2 => ?_⟩
  clear F1 N1
  dsimp only [List.nil_append] at N2
  k_steps
  rename Fr _ _ _ _ => F3
  rename News _ _ _ _ => N3
  refine insertOn (pre := []) (post := []) F3 N3 (fun _ h => nomatch h) (fun _ h => nomatch h) hr (by omega) (fun h4 F4 N4 => ?_)
  clear F3 N3
  k_steps
  exact hret _ _ _ (onOf F4 N4)
end
section
theorem rsLam : True := by w_top off; k_with_none; trivial
open PySem PySem.W PyProof.Rows PySem.Calls PyProof.Rows.LSm
section
variable {w : World} {mean : ExcName → Option Value} {mg mb : Str → Option Value} {A : Around} {g : Heap} {s : Shared} {R : Result → Shared → Prop} {news : List (Addr × Obj)} {k : Nat}
  {name qual : Str} {params : Arguments} {body : Expr} {scope : Scope} {cl : List (Str × Addr)} {pm ctv : Value} {c' f : Addr} {args : Args} {binds : List (Str × Value)}
/-- entering a lambda -/
theorem enterL (O : On g s.heap news) (G : Gr w mean mg mb A (k + 1) g)
    (ho : s.heap.get? f = some (kla_obj name qual params body scope cl pm c' ctv)) (hcd : s.heap.CodeRec (.ref c') qual)
    (hbind : bindArgs (kla_fn name qual params body scope cl pm (.ref c') ctv) args = pure binds) (hloc : ∀ y ∈ binds, scope.names.lookup y.1 = some .local)
    (h : ∀ L' h₁, Fr g L' h₁ (fun y => binds.reverse.lookup y) → News g L' h₁ news → (∀ p ∈ news, p.1 < L') → Gr w mean mg mb (A.deeper (envX qual scope L' f (.ref c') cl)) k g → s.heap.StaysIn h₁ → L' = s.heap.objs.size →
      wpAny (model VW w) (A.deeper (envX qual scope L' f (.ref c') cl)) (eval body (envX qual scope L' f (.ref c') cl))
        (fun v s' => R (.ok (.ret v)) s')
        (fun _ _ => False)
        { s with heap := h₁, toks := s.toks + binds.length })
    (hcell : ∀ x ∈ scope.names, x.2 ≠ .cell) (hco : scope.isCoroutine = false := by rfl) (hgen : scope.isGenerator = false := by rfl) (hk : scope.kind = .function := by rfl) :
    codeAny (model VW w) A (.call (.ref f) args) R s := by
  refine kla_callFunE (by have := G.room; omega) ho rfl hco hgen rfl hcd ?_
  rw [hbind]
  refine wpAny_pure (wpAny_newFunctionEnv hcell hloc (fun h₁ hns hsb => ⟨((G.T.nolimit).keeps O.keep).fresh _ hsb, ?_⟩) hk)
  show codeAny _ _ (.expr body (envX qual scope s.heap.objs.size f (.ref c') cl)) _ _
  have hk₁ : ∀ b o, s.heap.get? b = some o → h₁.get? b = some o := fun b o e => hsb.extBut b o (Nat.ne_of_lt (Heap.lt_size e)) (Heap.get?_push_of_some _ e)
  exact kla_codeExpr (wpAny_mono (h s.heap.objs.size h₁ ⟨hns, fun b o e => hk₁ b o (O.keep b o e), O.size⟩
    (fun p hp => ⟨hk₁ _ _ (O.nw p hp).1, Nat.ne_of_lt (Heap.lt_size (O.nw p hp).1), (O.nw p hp).2⟩) (fun p hp => Heap.lt_size (O.nw p hp).1) G.deeper hk₁ rfl) (fun v s' hl => hl) fun _ _ y => y.elim)
end
/-- a table of code: each code that it tells is among the objects told -/
def TabOk (ps : Array Value) (codes : List (Addr × Obj)) (q : Str) : Prop :=
  TriplesOk ps.toList ∧ ∀ pos r, codeAmong pos ps.toList = some r → ∃ c oc vs t, r = Value.ref c ∧ (c, oc) ∈ codes ∧ oc.data = .fields vs ∧ vs[1]? = some (.str q t)
theorem TabOk.nil {q : Str} : TabOk #[] [] q := ⟨trivial, fun pos r h => by cases h⟩
theorem TabOk.mono {ps : Array Value} {codes codes' : List (Addr × Obj)} {q : Str} (h : TabOk ps codes q) (hs : ∀ p ∈ codes, p ∈ codes') : TabOk ps codes' q :=
  ⟨h.1, fun pos r e => let ⟨c, oc, vs, t, e1, e2, e3⟩ := h.2 pos r e; ⟨c, oc, vs, t, e1, hs _ e2, e3⟩⟩
theorem codeAmong_app {pos : Pos} {a b : Int} {c r : Value} (l : List Value) (h : TriplesOk l) (e : codeAmong pos (l ++ [rawInt a, rawInt b, c]) = some r) : codeAmong pos l = some r ∨ r = c := by
  fun_induction TriplesOk l with
  | case1 =>
    simp only [List.nil_append, rawInt, codeAmong] at e
    split at e
    · exact .inr (Option.some.inj e).symm
    · cases e
  | case2 a' t b' u x rest ih =>
    simp only [List.cons_append, codeAmong] at e ⊢
    split at e
    · rename_i hc; rw [if_pos hc]; exact .inl e
    · rename_i hc; rw [if_neg hc]; exact ih h e
  | case3 l h1 h2 => exact h.elim
theorem TabOk.snoc {ps : Array Value} {codes : List (Addr × Obj)} {q : Str} {a b : Int} {c : Addr} {oc : Obj} {vs : Array Value} {t : Tok} (h : TabOk ps codes q) (hd : oc.data = .fields vs) (hq : vs[1]? = some (.str q t)) :
    TabOk (ps ++ #[rawInt a, rawInt b, .ref c]) ((c, oc) :: codes) q := by
  have e : (ps ++ #[rawInt a, rawInt b, Value.ref c]).toList = ps.toList ++ [rawInt a, rawInt b, Value.ref c] := by simp
  refine ⟨by rw [e]; exact TriplesOk_snoc a b _ _ h.1, fun pos r hr => ?_⟩
  rw [e] at hr
  rcases codeAmong_app _ h.1 hr with hr | rfl
  · obtain ⟨c', oc', vs', t', e1, e2, e3⟩ := h.2 pos r hr
    exact ⟨c', oc', vs', t', e1, .tail _ e2, e3⟩
  · exact ⟨c, oc, vs, t, rfl, .head _, hd, hq⟩
section
variable {w : World} {mean : ExcName → Option Value} {mg mb : Str → Option Value} {A : Around} {E : Value → Shared → Prop} {g : Heap} {L : Addr} {m : Str → Option Value} {s : Shared} {news codes : List (Addr × Obj)} {gg : Obj → List (Addr × Obj)} {Q : Value → Shared → Prop}
  {c P : Addr} {ccd : Value} {ps : Array Value} {pos : Pos} {firstLine : Nat} {name qual cn : Str} {params : Arguments} {body : Expr} {scope cs : Scope} {cl clos : List (Str × Addr)} {a : Addr}
theorem lamOn (F : Fr g L s.heap m) (N : News g L s.heap news) (T : Top topProg LO mean mg mb g) (C : CodeHd g c P) (hcd : ccd = .ref c) (U : UpdF P (tabObj ps) news gg) (ok : TabOk ps codes qual)
    (hcl : closureFor scope (envX cn cs L a ccd cl) = pure clos)
    (h : ∀ f c' ctv h' tk ps' nc oc vs t, Fr g L h' m → News g L h' ((f, kla_obj name qual params body scope clos ((mg "__name__").getD .none) c' ctv) :: (nc ++ gg (tabObj ps'))) → TabOk ps' (nc ++ codes) qual →
      (c', oc) ∈ nc ++ codes → oc.data = .fields vs → vs[1]? = some (.str qual t) → (∀ q ∈ nc, ∀ p ∈ news, p.1 < q.1) → (∀ q ∈ news, q.1 < f) → (∀ q ∈ nc, q.1 < f) → Q (.ref f) { s with heap := h', toks := tk }) :
    wpAny (model VW w) A (makeFunction name qual params (.expr body) scope (envX cn cs L a ccd cl) [] [] [] pos firstLine) Q E s := by
  have hgn : gg (tabObj ps) = news := by obtain ⟨pre, post, rfl, hg, _, _⟩ := U.split; exact hg _
  have hmem : (P, tabObj ps) ∈ news := by obtain ⟨pre, post, rfl, hg, _, _⟩ := U.split; exact List.mem_append_right _ (.head _)
  cases hc : codeAmong pos ps.toList with
  | none =>
    refine kla_nest F N T C hcd U ok.1 hc hcl (fun f c' oc vs t ctv h' tk F' N' d1 d2 l1 l2 => ?_)
    refine h f c' ctv h' tk _ [(c', oc)] oc vs t F' N' (ok.snoc d1 d2) (.head _) d1 d2 ?_ (fun q hq => Nat.lt_trans (l1 q hq) l2) ?_
    · intro q hq p hp
      rw [List.mem_singleton.mp hq]; exact l1 p hp
    · intro q hq
      rw [List.mem_singleton.mp hq]; exact l2
  | some r =>
    obtain ⟨c', oc, vs, t, rfl, e2, e3, e4⟩ := ok.2 pos r hc
    refine kla_hit F N T C hcd hmem ok.1 hc hcl (fun f ctv h' tk F' N' l1 => ?_)
    exact h f c' ctv h' tk ps [] oc vs t F' (by rw [List.nil_append, hgn]; exact N') ok e2 e3 e4 (fun _ h => nomatch h) l1 (fun _ h => nomatch h)
end
end
section
theorem rsCI : True := by w_top off; k_with_none; trivial
open PySem PySem.W PyProof.Rows PySem.Calls
/-! iter(f, '') -/
theorem slot_ci_iter : Slot "callable_iterator" "__iter__" "callable_iterator.__iter__" :=
  .of (owner := "callable_iterator") (n := "__iter__") (by rw [typeLookup_type, builtinLookup_eq_fast]; kernel_rfl) (by decide +kernel) (by decide +kernel) (by decide +kernel)
    (by first | exact .inl (by decide +kernel) | exact .inr (by decide +kernel)) (by rw [isSubtype_type]; kernel_rfl)
theorem slot_ci_next : Slot "callable_iterator" "__next__" "callable_iterator.__next__" :=
  .of (owner := "callable_iterator") (n := "__next__") (by rw [typeLookup_type, builtinLookup_eq_fast]; kernel_rfl) (by decide +kernel) (by decide +kernel) (by decide +kernel)
    (by first | exact .inl (by decide +kernel) | exact .inr (by decide +kernel)) (by rw [isSubtype_type]; kernel_rfl)
theorem entry_ci_next : entryFor table "callable_iterator.__next__" = some Builtin.«callable_iterator.__next__» := entryFor_of_tree (by kernel_rfl)
theorem entry_ci_iter : entryFor table "callable_iterator.__iter__" = some Builtin.«dict_keyiterator.__iter__» :=
  entryFor_alias (id' := "dict_keyiterator.__iter__") (by kernel_rfl) (by first | rfl | decide +kernel | (unfold String.splitOn; simp +decide [String.splitOnAux])) (by decide +kernel) (by kernel_rfl)
theorem owner_ci : Manifest.owners.lookup (String.ofList ['r', 'o', 't', 'a', 'r', 'e', 't', 'i', '_', 'e', 'l', 'b', 'a', 'l', 'l', 'a', 'c'].reverse) = some Manifest.sig_callable_iterator := by kernel_rfl
theorem args_ci_next (a : Value) : argsOk "callable_iterator.__next__" ⟨[a], []⟩ := by
  unfold argsOk; rw [signature?_of (id := "callable_iterator.__next__") (n := ['_', '_', 't', 'x', 'e', 'n', '_', '_']) (o := ['r', 'o', 't', 'a', 'r', 'e', 't', 'i', '_', 'e', 'l', 'b', 'a', 'l', 'l', 'a', 'c']) (by kernel_rfl) owner_ci]; kernel_rfl
theorem args_ci_iter (a : Value) : argsOk "callable_iterator.__iter__" ⟨[a], []⟩ := by
  unfold argsOk; rw [signature?_of (id := "callable_iterator.__iter__") (n := ['_', '_', 'r', 'e', 't', 'i', '_', '_']) (o := ['r', 'o', 't', 'a', 'r', 'e', 't', 'i', '_', 'e', 'l', 'b', 'a', 'l', 'l', 'a', 'c']) (by kernel_rfl) owner_ci]; kernel_rfl

/-- the iterator over a call, before its end -/
abbrev ciObj (m : Addr) (t : Tok) : Obj := { cls := .type "callable_iterator", dict := none, data := .fields #[.ref m, .str (Str.ofString "") t, .bool false], slots := #[] }
/-- the same, at its end -/
abbrev ciEnd : Obj := { cls := .type "callable_iterator", dict := none, data := .fields #[.none, .none, .bool true], slots := #[] }
/-- a method object -/
abbrev mtObj (f x : Addr) : Obj := { cls := .type "method", dict := none, data := .fields #[.ref f, .ref x], slots := #[] }

section
variable {prog : Program} {w : World} {A : Around} {E : Value → Shared → Prop} {s : Shared}
theorem wpAny_callBorrowed {M : Model} {f : Value} {pos : List Value} {Q : Value → Shared → Prop}
    (hc : codeAny M A (.call f ⟨pos, []⟩) (fun r s' => match r with | .ok (.ret v) => Q v s' | .ok _ => False | .error e => E e s') s) :
    wpAny M A (callBorrowed f pos) Q E s := fun Γ p hΓ => by
  unfold callBorrowed
  rw [Sem.wp_call]
  refine wpCode_mono (fun r s' h => ?_) (hc _ p rfl (hΓ.enter _ none p (by intro x; cases x)))
  cases r with
  | error e => exact h
  | ok f => cases f <;> exact h

theorem pyIter_ci {it : Addr} {m : Addr} {t : Tok} {Q : Value → Shared → Prop} (h0 : s.heap.get? it = some (ciObj m t)) (h : Q (.ref it) s) : wpAny (model prog w) A (pyIter (.ref it)) Q E s := by
  have hT : s.TypeIs (.ref it) "callable_iterator" := ⟨_, h0, rfl⟩
  refine wpAny_pyIter_slot hT slot_ci_iter (wpAny_call_entry slot_ci_iter hT entry_ci_iter ?_ (args_ci_iter _))
  show wpAny _ _ (ret (.ref it)) _ _ s
  exact wpAny_pure ⟨_, rfl, "callable_iterator", _, hT, slot_ci_next.lookup, h⟩

theorem mtCall {m f x : Addr} {pos : List Value} {R : Result → Shared → Prop} (hm : s.heap.get? m = some (mtObj f x)) (h : codeAny (model prog w) A (.call (.ref f) ⟨.ref x :: pos, []⟩) R s) :
    codeAny (model prog w) A (.call (.ref m) ⟨pos, []⟩) R s := by
  refine codeAny_of_tree ?_
  show wpAny _ A.in1 (callAny (.ref m) ⟨pos, []⟩) _ _ s
  simp only [callAny]
  refine wpAny_bind (wpAny_load hm ?_)
  exact wpAny_pure ⟨rfl, h⟩

theorem borrows_mt {m f x : Addr} {fo : Obj} {fd : FuncData} {Q : Bool → Shared → Prop} (hm : s.heap.get? m = some (mtObj f x)) (hf : s.heap.get? f = some fo) (hd : fo.data = .func fd) (h : Q true s) :
    wpAny (model prog w) A (borrowsExactly (.ref m)) Q E s := by
  unfold borrowsExactly
  refine wpAny_bind (wpAny_load hm ?_)
  show wpAny _ _ (load f >>= _) _ _ s
  refine wpAny_bind (wpAny_load hf ?_)
  rw [hd]
  exact wpAny_pure h

theorem stopIt {α : Type} {Q : α → Shared → Prop} (hh : A.handled = none)
    (hE : ∀ h' e, s.heap.StaysIn h' → s.heap.objs.size ≤ h'.objs.size → (∃ o, h'.get? e = some o ∧ o.cls = .type "StopIteration") → E (.ref e) { s with heap := h' }) :
    wpAny (model prog w) A (Builtin.SmallTypes.stopIteration (α := α)) Q E s := by
  unfold Builtin.SmallTypes.stopIteration
  refine wpAny_bind ?_
  simp only [newExc, newTuple]
  refine wpAny_bind (wpAny_newObj_type ?_ (by size_fits))
  refine wpAny_bind (m := firstArgMember _ _) (wpAny_of_eq (a := Value.none) (by first | rfl | (simp only [firstArgMember]; rfl)) ?_)
  refine wpAny_newObj_type ?_ (by size_fits)
  simp only [raiseNew]
  refine wpAny_bind (wpAny_handled ?_)
  rw [hh]
  refine wpAny_bind (wpAny_pure (wpAny_throw ?_))
  exact hE _ _ (fun b o e => Heap.get?_push_of_some _ (Heap.get?_push_of_some _ e)) (by simp only [Heap.size_push]; omega) ⟨_, Heap.get?_push_size _ rfl, rfl⟩

theorem pyNext_ci {it m f x : Addr} {t : Tok} {fo : Obj} {fd : FuncData} {Q : Option Value → Shared → Prop} (hh : A.handled = none)
    (hi : s.heap.get? it = some (ciObj m t)) (hm : s.heap.get? m = some (mtObj f x)) (hf : s.heap.get? f = some fo) (hd : fo.data = .func fd)
    (hc : codeAny (model prog w) A.in1 (.call (.ref f) ⟨[.ref x], []⟩) (fun r s' => ∃ c tc, r = .ok (.ret (.str c tc)) ∧ s'.heap.get? it = some (ciObj m t) ∧ s'.heap.get? m = some (mtObj f x) ∧ s'.heap.get? f = some fo ∧
      (c ≠ Str.ofString "" → Q (some (.str c tc)) s') ∧
      (c = Str.ofString "" → ∀ h', (∀ b o, b ≠ it → s'.heap.get? b = some o → h'.get? b = some o) → s'.heap.objs.size ≤ h'.objs.size → Q none { s' with heap := h' })) s) :
    wpAny (model prog w) A (pyNext (.ref it)) Q E s := by
  have hT : s.TypeIs (.ref it) "callable_iterator" := ⟨_, hi, rfl⟩
  unfold pyNext
  refine wpAny_bind (wpAny_attempt (wpAny_callSpecial?_slot (name := Str.ofString "__next__") hT slot_ci_next (wpAny_call_entry slot_ci_next hT entry_ci_next ?_ (args_ci_next _))))
  show wpAny _ _ (field (.ref it) 2 >>= _) _ _ s
  refine wpAny_bind (wpAny_field hi rfl (x := .bool false) rfl ?_)
  show wpAny _ _ (field (.ref it) 0 >>= _) _ _ s
  refine wpAny_bind (wpAny_field hi rfl (x := .ref m) rfl ?_)
  refine wpAny_bind (wpAny_attempt ?_)
  unfold callOutOfASlot
  refine wpAny_bind (borrows_mt hm hf hd ?_)
  show wpAny _ _ (callBorrowed (.ref m) []) _ _ s
  refine wpAny_callBorrowed (mtCall hm (codeAny_mono hc ?_))
  rintro r s' ⟨c, tc, rfl, hi', hm', hf', k1, k2⟩
  show wpAny _ _ (field (.ref it) 2 >>= _) _ _ s'
  refine wpAny_bind (wpAny_field hi' rfl (x := .bool false) rfl ?_)
  show wpAny _ _ (field (.ref it) 1 >>= _) _ _ s'
  refine wpAny_bind (wpAny_field hi' rfl (x := .str (Str.ofString "") t) rfl ?_)
  refine wpAny_bind (wpAny_holding (wpAny_eqBool_str ?_))
  by_cases e : c = Str.ofString ""
  · rw [decide_eq_true e.symm]
    show wpAny _ _ (rule _ >>= _) _ _ s'
    refine wpAny_bind (wpAny_rule ?_)
    refine wpAny_bind ?_
    show wpAny _ _ (field (.ref it) 0 >>= _) _ _ s'
    refine wpAny_bind (wpAny_field hi' rfl (x := .ref m) rfl ?_)
    refine wpAny_bind ?_
    · unfold slotLetsGo
      refine wpAny_bind (borrows_mt hm' hf' hd ?_)
      refine wpAny_pure ?_
      refine wpAny_bind (wpAny_setField_rec hi' (by simp) fun h₁ hi₁ hs₁ => ?_)
      refine wpAny_bind (wpAny_setField_rec hi₁ (by simp) fun h₂ hi₂ hs₂ => ?_)
      refine (wpAny_setField_rec hi₂ (by simp) fun h₃ hi₃ hs₃ => ?_)
      refine stopIt hh fun h₄ ex st sz ho => ?_
      obtain ⟨o, ho, hcl⟩ := ho
      refine wpAny_bind (wpAny_isInstance (T := "StopIteration") (b := true) ⟨o, ho, hcl⟩ isSubtype_stop ?_)
      refine wpAny_pure (k2 e h₄ (fun b o hb hg => st _ _ ?_) (Nat.le_trans ?_ sz))
      · exact ((hs₃.2 b hb).trans ((hs₂.2 b hb).trans (hs₁.2 b hb))).trans hg
      · show _ ≤ h₃.objs.size
        rw [hs₃.1]; show _ ≤ h₂.objs.size; rw [hs₂.1]; show _ ≤ h₁.objs.size; rw [hs₁.1]; exact Nat.le_refl _
  · rw [decide_eq_false (fun q => e q.symm)]
    exact wpAny_pure ⟨_, rfl, wpAny_pure (k1 e)⟩
end
end
section
theorem rsFnA : True := by w_top off; k_with_none; trivial
open PySem PySem.W PyProof.Rows PySem.Calls
/-! names on a function object -/
theorem slot_fn_ga : Slot "function" "__getattribute__" "object.__getattribute__" :=
  .of (owner := "object") (n := "__getattribute__") (by rw [typeLookup_type, builtinLookup_eq_fast]; kernel_rfl) (by decide +kernel) (by decide +kernel) (by decide +kernel)
    (by first | exact .inl (by decide +kernel) | exact .inr (by decide +kernel)) (by rw [isSubtype_type]; kernel_rfl)
theorem slot_fn_sa : Slot "function" "__setattr__" "object.__setattr__" :=
  .of (owner := "object") (n := "__setattr__") (by rw [typeLookup_type, builtinLookup_eq_fast]; kernel_rfl) (by decide +kernel) (by decide +kernel) (by decide +kernel)
    (by first | exact .inl (by decide +kernel) | exact .inr (by decide +kernel)) (by rw [isSubtype_type]; kernel_rfl)
theorem fn_no_hook : typeLookup (.type "function") "__getattr__" = pure none := by rw [typeLookup_type, builtinLookup_eq_fast]; kernel_rfl
theorem fn_no_read : typeLookup (.type "function") (Str.ofString "read") = pure none := by rw [typeLookup_type, builtinLookup_eq_fast]; kernel_rfl
theorem fn_mro : mroOf (.type "function") = pure [.type "function", .type "object"] := by rw [mroOf_type]; kernel_rfl
theorem entry_oga : entryFor table "object.__getattribute__" = some Builtin.«object.__getattribute__» := entryFor_of_tree (by kernel_rfl)
theorem entry_osa : entryFor table "object.__setattr__" = some Builtin.«object.__setattr__» := entryFor_of_tree (by kernel_rfl)
theorem args_oga (a b : Value) : argsOk "object.__getattribute__" ⟨[a, b], []⟩ := by unfold argsOk; kernel_rfl
theorem args_osa (a b c : Value) : argsOk "object.__setattr__" ⟨[a, b, c], []⟩ := by unfold argsOk; kernel_rfl

section
variable {prog : Program} {w : World} {A : Around} {E : Value → Shared → Prop}
theorem fnGet_ga {s : Shared} {st dd : Addr} {fd : FuncData} {sl : Array (Option Value)} {mF : Str → Option Value} {v : Value} {tk : Tok} {Q : Fin → Shared → Prop}
    (ho : s.heap.get? st = some ⟨.type "function", some dd, .func fd, sl⟩) (hn : s.heap.Ns dd mF) (hv : mF (Str.ofString "read") = some v)
    (h : Q (.done (.ret v)) s) : wpAny (model prog w) A (Builtin.«object.__getattribute__» ⟨[.ref st, .str (Str.ofString "read") tk], []⟩) Q E s := by
  have hT : s.TypeIs (.ref st) "function" := ⟨_, ho, rfl⟩
  show wpAny _ _ (typeOf (.ref st) >>= _) _ _ s
  refine wpAny_bind (wpAny_typeOf hT ?_)
  refine wpAny_bind ?_
  unfold Builtin.ObjectAttr.find
  refine wpAny_bind (wpAny_of_eq fn_no_read ?_)
  show wpAny _ _ (Builtin.ObjectAttr.ownThenClass (.ref st) (Str.ofString "read") none none) _ _ s
  unfold Builtin.ObjectAttr.ownThenClass
  refine wpAny_bind ?_
  show wpAny _ _ (Builtin.ObjectAttr.ownDict st >>= _) _ _ s
  refine wpAny_bind ?_
  unfold Builtin.ObjectAttr.ownDict loadHead
  refine wpAny_bind (wpAny_loadPart ho ?_)
  show wpAny _ _ (instanceDict st false) _ _ s
  unfold instanceDict
  refine wpAny_bind (wpAny_loadPart ho ?_)
  refine wpAny_pure ?_
  show wpAny _ _ (nsGet dd (Str.ofString "read")) _ _ s
  refine wpAny_nsGet hn ?_
  rw [hv]
  refine wpAny_bind (wpAny_rule (wpAny_pure (wpAny_pure h)))

theorem fnGetM {s : Shared} {st dd : Addr} {fd : FuncData} {sl : Array (Option Value)} {mF : Str → Option Value} {fr : Addr} {pl : Sem Bool} {Q : Value × List Value → Shared → Prop}
    (ho : s.heap.get? st = some ⟨.type "function", some dd, .func fd, sl⟩) (hn : s.heap.Ns dd mF) (hv : mF (Str.ofString "read") = some (.ref fr))
    (h : Q (.ref fr, []) { s with toks := s.toks + 1 }) : wpAny (model prog w) A (getMethod (.ref st) (Str.ofString "read") pl) Q E s := by
  have hT : s.TypeIs (.ref st) "function" := ⟨_, ho, rfl⟩
  have hT1 : ({ s with toks := s.toks + 1 } : Shared).TypeIs (.ref st) "function" := ⟨_, ho, rfl⟩
  unfold getMethod
  refine wpAny_bind (wpAny_specialOf hT slot_fn_ga.lookup ?_)
  show wpAny _ _ (if (Manifest.canonical "object.__getattribute__" != "object.__getattribute__") = true then _ else _) _ _ _
  rw [if_neg (by decide +kernel)]
  refine wpAny_bind (wpAny_specialOf hT fn_no_hook ?_)
  show wpAny _ _ (specialOf (.ref st) (Str.ofString "read") >>= _) _ _ _
  refine wpAny_bind (wpAny_specialOf hT fn_no_read ?_)
  show wpAny _ _ (getAttr (.ref st) (Str.ofString "read") >>= _) _ _ _
  unfold getAttr getAttrBy
  refine wpAny_bind (wpAny_bind (wpAny_mkText (wpAny_holding (wpAny_bind (wpAny_typeOf hT1 (wpAny_bind (wpAny_of_eq slot_fn_ga.lookup ?_)))))))
  show wpAny _ _ (getAttrByItsOwn _ _ _ _ _ _) _ _ _
  unfold getAttrByItsOwn
  refine wpAny_bind (wpAny_pure (wpAny_bind (wpAny_attempt (wpAny_holding ?_))))
  show wpAny _ _ (boundAndCalled _ _ _) _ _ _
  unfold boundAndCalled
  refine wpAny_bind (wpAny_of_eq (slot_fn_ga.bind _) ?_)
  show wpAny _ _ (call (.builtin "object.__getattribute__") [.ref st, .str (Str.ofString "read") _]) _ _ _
  refine wpAny_call_entry slot_fn_ga hT1 entry_oga (fnGet_ga ho hn hv ⟨_, rfl, ?_⟩) (args_oga _ _)
  exact wpAny_pure (wpAny_pure h)

theorem fnSet {s : Shared} {st : Addr} {fd : FuncData} {v : Value} {Q : Unit → Shared → Prop}
    (ho : s.heap.get? st = some ⟨.type "function", none, .func fd, #[]⟩)
    (h : ∀ h' dd tk' mF, s.heap.objs.size ≤ h'.objs.size → (∀ b o, b ≠ st → s.heap.get? b = some o → h'.get? b = some o) → h'.get? st = some ⟨.type "function", some dd, .func fd, #[]⟩ → h'.Ns dd mF → mF (Str.ofString "read") = some v → s.heap.objs.size ≤ dd → dd < h'.objs.size → Q () { s with heap := h', toks := tk' }) :
    wpAny (model prog w) A (setAttr (.ref st) (Str.ofString "read") v) Q E s := by
  have hT1 : ({ s with toks := s.toks + 1 } : Shared).TypeIs (.ref st) "function" := ⟨_, ho, rfl⟩
  unfold setAttr
  refine wpAny_bind (wpAny_mkText ?_)
  refine wpAny_bind (wpAny_callSpecial?_slot (name := Str.ofString "__setattr__") hT1 slot_fn_sa (wpAny_call_entry slot_fn_sa hT1 entry_osa ?_ (args_osa _ _ _)))
  show wpAny _ _ (Builtin.ObjectAttr.refuseIfOverridden (.ref st) _ >>= _) _ _ _
  refine wpAny_bind ?_
  unfold Builtin.ObjectAttr.refuseIfOverridden
  refine wpAny_bind (wpAny_typeOf hT1 (wpAny_bind (wpAny_of_eq fn_mro ?_)))
  refine wpAny_of_eq (a := ()) (by kernel_rfl) ?_
  show wpAny _ _ (typeOf (.ref st) >>= _) _ _ _
  refine wpAny_bind (wpAny_typeOf hT1 ?_)
  refine wpAny_bind (wpAny_of_eq fn_no_read ?_)
  show wpAny _ _ (Builtin.ObjectAttr.storeInOwnDict _ _ _ _ _ _) _ _ _
  unfold Builtin.ObjectAttr.storeInOwnDict
  refine wpAny_bind (wpAny_of_eq (a := ()) rfl ?_)
  show wpAny _ _ (instanceDict st true >>= _) _ _ _
  refine wpAny_bind ?_
  unfold instanceDict
  refine wpAny_bind (wpAny_loadPart ho ?_)
  show wpAny _ _ (if (!true || !typeHasDict (.type "function")) = true then _ else _) _ _ _
  rw [if_neg (by decide +kernel)]
  show wpAny _ _ (alloc _ >>= _) _ _ _
  refine wpAny_bind (wpAny_alloc ?_)
  dsimp only
  have hx₁ : (s.heap.push { cls := .type "dict", data := .dict #[] }).get? st = some ⟨.type "function", none, .func fd, #[]⟩ := Heap.get?_push_of_some _ ho
  have hxs : st ≠ s.heap.objs.size := Nat.ne_of_lt (Heap.lt_size ho)
  refine wpAny_bind (wpAny_update hx₁ ?_)
  unfold dictMade
  show wpAny _ _ (if finalisedInACycleAlone "function" = true then _ else _) _ _ _
  rw [if_neg (by decide +kernel)]
  refine wpAny_pure ?_
  have hgd : ((s.heap.push { cls := .type "dict", data := .dict #[] }).update st fun o => { cls := o.cls, dict := some s.heap.objs.size, data := o.data, slots := o.slots }).get? s.heap.objs.size
      = some { cls := .type "dict", data := .dict #[] } :=
    (Heap.get?_update_ne _ _ _ _ hxs.symm).trans (Heap.get?_push_at rfl rfl)
  have hnd : ((s.heap.push { cls := .type "dict", data := .dict #[] }).update st fun o => { cls := o.cls, dict := some s.heap.objs.size, data := o.data, slots := o.slots }).Ns s.heap.objs.size (fun _ => none) :=
    ⟨_, #[], _, hgd, rfl, fun e he => absurd he (by simp), fun _ => rfl⟩
  show wpAny _ _ (Builtin.ObjectAttr.storeInDict s.heap.objs.size _ _ v) _ _ _
  unfold Builtin.ObjectAttr.storeInDict Builtin.ObjectAttr.newKeyGuard
  refine wpAny_bind (wpAny_pure (wpAny_bind (wpAny_nsSet1 (Heap.Ns1.of_empty hnd) fun h' hn' hs => ?_)))
  obtain ⟨oD, esD, epD, hoD, hdD, hcD⟩ := hn'.count (Within.cons (Str.ofString "read") v Within.nil)
  refine wpAny_bind (wpAny_lookBehind hoD (by rw [hdD]; exact pastItsLine_dict (Nat.le_trans hcD (by rw [List.length_cons, List.length_nil, sizeLine_eq]; omega))) ?_)
  have hsz : h'.objs.size = s.heap.objs.size + 1 := by rw [hs.1]; simp [Heap.update, Heap.push]
  refine wpAny_pure ⟨_, rfl, wpAny_pure (h h' s.heap.objs.size _ _ (by omega) (fun b o hb hg => ?_) ?_ hn'.ns (if_pos rfl) (Nat.le_refl _) (by omega))⟩
  · exact (hs.2 b (Nat.ne_of_lt (Heap.lt_size hg))).trans ((Heap.get?_update_ne _ _ _ _ hb).trans (Heap.get?_push_of_some _ hg))
  · exact (hs.2 st hxs).trans (Heap.get?_update_self _ hx₁ rfl)

/-- a namespace that names `read` -/
def RdObj (od : Obj) (v : Value) : Prop := Ex3 fun (es : Array DictEntry) (ep : Nat) (mF : Str → Option Value) => C4 (od.data = .dict es ep) (StrKeys es) ((∀ name, nsFind es name = mF name)) (mF (Str.ofString "read") = some v)
theorem RdObj.ns {od : Obj} {v : Value} (r : RdObj od v) {h : Heap} {d : Addr} (ho : h.get? d = some od) : ∃ mF, h.Ns d mF ∧ mF (Str.ofString "read") = some v :=
  let ⟨es, ep, mF, a, b, c, e⟩ := r; ⟨mF, ⟨od, es, ep, ho, a, b, c⟩, e⟩
theorem fnSetOn {s : Shared} {g : Heap} {L st : Addr} {m : Str → Option Value} {fd : FuncData} {v : Value} {Q : Unit → Shared → Prop} {news : List (Addr × Obj)} {gg : Obj → List (Addr × Obj)}
    (F : Fr g L s.heap m) (N : News g L s.heap news) (U : UpdF st ⟨.type "function", none, .func fd, #[]⟩ news gg)
    (h : ∀ h' dd od tk', Fr g L h' m → News g L h' ((dd, od) :: gg ⟨.type "function", some dd, .func fd, #[]⟩) → RdObj od v → (∀ p ∈ news, p.1 < dd) → Q () { s with heap := h', toks := tk' }) :
    wpAny (model prog w) A (setAttr (.ref st) (Str.ofString "read") v) Q E s := by
  obtain ⟨own, rest, rfl, hg, h1, h2⟩ := U.split
  have hm := N (st, _) (List.mem_append_right _ (.head _))
  refine fnSet hm.1 fun h' dd tk' mF hsz hk hst hns hv hdd hlt => ?_
  obtain ⟨od, es, ep, a, b, c, d⟩ := hns
  have hLs : L < s.heap.objs.size := F.ns.lt
  have fresh : ∀ b, L < b → g.get? b = none := fun b hb => Heap.get?_none_of_le (Nat.le_trans F.above (Nat.le_of_lt hb))
  have hLd : L < dd := Nat.lt_of_lt_of_le hLs hdd
  refine h h' dd od tk' ⟨F.ns.at' fun o e => hk _ _ hm.2.1.symm e, fun b o e => hk b o (fun q => by rw [q, hm.2.2] at e; cases e) (F.keep b o e), F.above⟩ ?_ ⟨es, ep, mF, b, c, d, hv⟩ (fun p hp => Nat.lt_of_lt_of_le (Heap.lt_size (N p hp).1) hdd)
  intro q hq
  rw [hg] at hq
  rcases List.mem_cons.mp hq with rfl | hq
  · exact ⟨a, Nat.ne_of_gt hLd, fresh _ hLd⟩
  · rcases List.mem_append.mp hq with hq | hq
    · have n := N q (List.mem_append_left _ hq)
      exact ⟨hk _ _ (h1 q hq) n.1, n.2⟩
    · rcases List.mem_cons.mp hq with rfl | hq
      · exact ⟨hst, hm.2⟩
      · have n := N q (List.mem_append_right _ (.tail _ hq))
        exact ⟨hk _ _ (h2 q hq) n.1, n.2⟩
end
end
section
theorem rsLex1 : True := by w_top off; k_with_none; trivial
open PySem PySem.W PyProof.Rows PySem.Calls
/-- what a lexer's own dict holds -/
def LxEs (P : Params) (ln : Nat) (st pb : Addr) (es : List DictEntry) : Prop :=
  Ex6 fun (t1 t2 t3 t4 t5 t6 : Tok) => es = [⟨PyData.keyHash P (Str.ofString "lineno"), .str (Str.ofString "lineno") t1, .int ln t2⟩, ⟨PyData.keyHash P (Str.ofString "instream"), .str (Str.ofString "instream") t3, .ref st⟩,
    ⟨PyData.keyHash P (Str.ofString "whitespace"), .str (Str.ofString "whitespace") t4, .str (Str.ofString "\n\t\r ") t5⟩, ⟨PyData.keyHash P (Str.ofString "pushback"), .str (Str.ofString "pushback") t6, .ref pb⟩]
theorem lexInit {w : World} {mean : ExcName → Option Value} {mg mb : Str → Option Value} {A : Around} {g : Heap} {s : Shared} {R : Result → Shared → Prop}
  {a d st : Addr} (had : d < a)
  (O : On g s.heap [(a, instObj 86 d), (d, dictOf [] 0)]) (G : Gr w mean mg mb A 4 g)
  (hret : ∀ h' tk' es pb, LxEs w.params 1 st pb es → a < pb → On g h' [(a, instObj 86 d), (d, dictOf es 4), (pb, listOf #[] 0)] → R (.ok (.ret .none)) { s with heap := h', toks := tk' }) :
  codeAny (model VW w) A (.call (.ref 62) ⟨[.ref a, .ref st], []⟩) R s := by
  obtain ⟨hdl, dp, fr, gd, un⟩ := A
  obtain rfl : hdl = none := G.hh
  refine' enterK (binds := [(Str.ofString "self", .ref a), (Str.ofString "fp", .ref st)]) O G ?k6 ?k7 ?k9 ?kB ?_ ?c2 ?c3 ?c4 ?c5
  case k6 => k_is
  case k7 => k_is
  case k9 => exact BindsTo.of_eq rfl
  case c5 => decide
  case kB => exact locs rfl
  case c2 => exact rfl
  case c3 => exact rfl
  case c4 => exact rfl
  intro L' h' F' N' l1 X' T' G'
  (try dsimp only)
  k_lt l1
  k_lt2 had
  k_steps
  rename Fr _ _ _ _ => F5
  rename News _ _ _ _ => N5
  refine' hret _ _ _ _ ⟨_, _, _, _, _, _, rfl⟩ ?lt (onOf F5 (newsSub N5 ?mm))
  case mm => exact List.forall_mem_cons.mpr ⟨by k_mem, List.forall_mem_cons.mpr ⟨by k_mem, List.forall_mem_cons.mpr ⟨by k_mem, List.forall_mem_nil _⟩⟩⟩
  case lt => rename _ ∧ _ => hl; exact hl.1

theorem pushTok {w : World} {mean : ExcName → Option Value} {mg mb : Str → Option Value} {A : Around} {g : Heap} {s : Shared} {R : Result → Shared → Prop}
  {a d st pb : Addr} {ln c : Nat} {es : List DictEntry} {vs : List Value} {v : Value} (ha : g.get? a = some (instObj 86 d)) (hd0 : g.get? d = some (dictOf es 4)) (hes : LxEs w.params ln st pb es) (hvs : vs.length ≤ 5000)
  (O : On g s.heap [(pb, listOf vs.toArray c)]) (G : Gr w mean mg mb A 4 g)
  (hret : ∀ h' tk' c', On g h' [(pb, listOf (vs ++ [v]).toArray c')] → R (.ok (.ret .none)) { s with heap := h', toks := tk' }) :
  codeAny (model VW w) A (.call (.ref 83) ⟨[.ref a, v], []⟩) R s := by
  obtain ⟨hdl, dp, fr, gd, un⟩ := A
  obtain rfl : hdl = none := G.hh
  obtain ⟨t1, t2, t3, t4, t5, t6, rfl⟩ := hes
  refine' enterK (binds := [(Str.ofString "self", .ref a), (Str.ofString "token", v)]) O G ?k6 ?k7 ?k9 ?kB ?_ ?c2 ?c3 ?c4 ?c5
  case k6 => k_is
  case k7 => k_is
  case k9 => exact BindsTo.of_eq rfl
  case c5 => decide
  case kB => exact locs rfl
  case c2 => exact rfl
  case c3 => exact rfl
  case c4 => exact rfl
  intro L' h' F' N' l1 X' T' G'
  (try dsimp only)
  k_steps
  rename Fr _ _ _ _ => F5
  rename News _ _ _ _ => N5
  rw [show vs.toArray.push v = (vs ++ [v]).toArray by simp] at N5
  exact hret _ _ _ (onOf F5 N5)

theorem getPop {w : World} {mean : ExcName → Option Value} {mg mb : Str → Option Value} {A : Around} {g : Heap} {s : Shared} {R : Result → Shared → Prop}
  {a d st pb : Addr} {ln c : Nat} {es : List DictEntry} {vs : List Value} {v : Value} (ha : g.get? a = some (instObj 86 d)) (hd0 : g.get? d = some (dictOf es 4)) (hes : LxEs w.params ln st pb es) (hvs : vs.length ≤ 5000)
  (O : On g s.heap [(pb, listOf (v :: vs).toArray c)]) (G : Gr w mean mg mb A 4 g)
  (hret : ∀ h' tk' c', On g h' [(pb, listOf vs.toArray c')] → R (.ok (.ret v)) { s with heap := h', toks := tk' }) :
  codeAny (model VW w) A (.call (.ref 76) ⟨[.ref a], []⟩) R s := by
  obtain ⟨hdl, dp, fr, gd, un⟩ := A
  obtain rfl : hdl = none := G.hh
  obtain ⟨t1, t2, t3, t4, t5, t6, rfl⟩ := hes
  refine' enterK (binds := [(Str.ofString "self", .ref a)]) O G ?k6 ?k7 ?k9 ?kB ?_ ?c2 ?c3 ?c4 ?c5
  case k6 => k_is
  case k7 => k_is
  case k9 => exact BindsTo.of_eq rfl
  case c5 => decide
  case kB => exact locs rfl
  case c2 => exact rfl
  case c3 => exact rfl
  case c4 => exact rfl
  intro L' h' F' N' l1 X' T' G'
  (try dsimp only)
  k_steps
  refine kl_popAt (k := 0) (p := []) (y := v) (q := vs) F' N' (by decide) ?_ rfl (Upd.head (fun _ h => nomatch h)) ?_ ?_
  · simp [seqIndex?]
  · rw [sizeLine_eq]; simp; omega
  · intro h5 F5 N5
    exact hret _ _ _ (onOf F5 N5)
end
section
theorem rsLex2 : True := by w_top off; k_with_none; trivial
open PySem PySem.W PyProof.Rows PySem.Calls
/-- the sign at a place, or no sign -/
def sgAt (tx : Str) (p : Nat) : Str := match tx.cps[p]? with | some c => ⟨#[c]⟩ | none => ⟨#[]⟩
def nxAt (tx : Str) (p : Nat) : Nat := if p < tx.cps.size then p + 1 else p
/-- the reading function's calls -/
def ReadC (w : World) (g : Heap) (fr la : Addr) (tx : Str) : Prop :=
  ∀ g', g.StaysIn g' → g.objs.size ≤ g'.objs.size → ∀ (mean : ExcName → Option Value) (mg mb : Str → Option Value) (A : Around) (s : Shared) (R : Result → Shared → Prop) (c p : Nat) (t t1 : Tok),
    On g' s.heap [(la, listOf #[.int p t] c)] → Gr w mean mg mb A 3 g' → p ≤ tx.cps.size →
    (∀ h' tk' t' t'', On g' h' [(la, listOf #[.int (nxAt tx p : Nat) t'] c)] → R (.ok (.ret (.str (sgAt tx p) t''))) { s with heap := h', toks := tk' }) →
    codeAny (model VW w) A (.call (.ref fr) ⟨[.int 1 t1], []⟩) R s
/-- what stands still in a lexer -/
def LexAt (w : World) (g : Heap) (x dx st la : Addr) (tx : Str) : Prop :=
  g.get? x = some (instObj 86 dx) ∧ Ex4 fun dd od fr fdL => C5 (g.get? st = some ⟨.type "function", some dd, .func fdL, #[]⟩) (g.get? dd = some od) (RdObj od (.ref fr)) (FnAt fr g) (ReadC w g fr la tx)
theorem LexAt.keeps {w : World} {g g' : Heap} {x dx st la : Addr} {tx : Str} (h : LexAt w g x dx st la tx) (k : g.StaysIn g') (hs : g.objs.size ≤ g'.objs.size) : LexAt w g' x dx st la tx := by
  obtain ⟨h1, dd, od, fr, fdL, h2, h3, h4, ⟨a1, a2, a3, a4, a5⟩, h6⟩ := h
  exact ⟨k _ _ h1, dd, od, fr, fdL, k _ _ h2, k _ _ h3, h4, ⟨a1, a2, a3, a4, k _ _ a5⟩, fun g2 k2 s2 => h6 g2 (fun b o e => k2 b o (k b o e)) (Nat.le_trans hs s2)⟩
def isNl (tx : Str) (p : Nat) : Nat := if tx.cps[p]? = some 10 then 1 else 0

theorem sgAt_nl (tx : Str) (p : Nat) : (sgAt tx p == Str.ofString "\n") = decide (tx.cps[p]? = some 10) := by
  rw [show Str.ofString "\n" = ⟨#[10]⟩ by decide +kernel]
  unfold sgAt
  cases h : tx.cps[p]? with
  | none =>
    show _ = decide (none = some 10)
    rw [decide_eq_false (by intro e; cases e), beq_eq_false_iff_ne]
    intro e
    exact absurd (congrArg (fun s : Str => s.cps.size) e) (by decide)
  | some c =>
    show _ = decide (some c = some 10)
    by_cases hc : c = 10
    · subst hc; decide
    · rw [decide_eq_false (by intro e; exact hc (Option.some.inj e)), beq_eq_false_iff_ne]
      intro e; exact hc (Option.some.inj (congrArg (fun s : Str => s.cps.toList.head?) e))

theorem readChar {w : World} {mean : ExcName → Option Value} {mg mb : Str → Option Value} {A : Around} {g : Heap} {s : Shared} {R : Result → Shared → Prop}
  {x dx st la pb : Addr} {tx : Str} {ln c p : Nat} {t : Tok} {es : List DictEntry} (hl : LexAt w g x dx st la tx) (hes : LxEs w.params ln st pb es) (hp : p ≤ tx.cps.size) (hda : dx ≠ la)
  (O : On g s.heap [(dx, dictOf es 4), (la, listOf #[.int p t] c)]) (G : Gr w mean mg mb A 5 g)
  (hret : ∀ h' tk' es' t' t'', LxEs w.params (ln + isNl tx p) st pb es' → On g h' [(dx, dictOf es' 4), (la, listOf #[.int (nxAt tx p : Nat) t'] c)] → R (.ok (.ret (.str (sgAt tx p) t''))) { s with heap := h', toks := tk' }) :
  codeAny (model VW w) A (.call (.ref 69) ⟨[.ref x], []⟩) R s := by
  obtain ⟨hdl, dp, fr, gd, un⟩ := A
  obtain rfl : hdl = none := G.hh
  obtain ⟨t1, t2, t3, t4, t5, t6, rfl⟩ := hes
  refine' enterK (binds := [(Str.ofString "self", .ref x)]) O G ?k6 ?k7 ?k9 ?kB ?_ ?c2 ?c3 ?c4 ?c5
  case k6 => k_is
  case k7 => k_is
  case k9 => exact BindsTo.of_eq rfl
  case c5 => decide
  case kB => exact locs rfl
  case c2 => exact rfl
  case c3 => exact rfl
  case c4 => exact rfl
  intro L' h' F' N' l1 X' T' G'
  (try dsimp only)
  k_lt l1
  obtain ⟨hx, dd, od, fr, fdL, h2, h3, h4, hfn, hrd⟩ := hl
  obtain ⟨mF, hns, hmF⟩ := h4.ns h3
  k_with "stop" => (with_reducible show wpAny _ _ (getMethod _ (Str.ofString "read") _) _ _ _)
  k_steps
  refine fnGetM (F'.keep _ _ h2) (hns.keeps F'.keep) hmF ?_
  k_with "stop" => (with_reducible show wpAny _ _ (call (Value.ref _) _ _) _ _ _)
  k_steps
  refine callOn F' N' [(la, listOf #[.int p t] c)] [(dx, dictOf _ 4)] (by intro q hq; rw [List.mem_singleton.mp hq]; k_mem) (by intro q hq; rw [List.mem_singleton.mp hq]; k_mem) (by intro p hp q hq; rw [List.mem_singleton.mp hp, List.mem_singleton.mp hq]; exact hda) (fun g' st' sz' O' hg' hk' => ?_)
  refine hrd g' st' sz' mean mg mb _ _ _ c p t _ O' ((G'.keeps st').le (by omega)) hp ?_
  intro h5 tk5 t5' t5'' O5
  refine ⟨_, h5, tk5, _, rfl, rfl, O5, fun F5 N5 => ?_⟩
  clear F' N' hg' hk' O5 O' st' sz'
  dsimp only [List.cons_append, List.nil_append] at N5
  k_with "stop" => (with_reducible show wpAny _ _ (compareOp CmpOp.Eq _ _) _ _ _)
  k_steps
  refine eq_str ?_
  rw [sgAt_nl]
  k_with_none
  have hda' := neN hda
  by_cases hnl : tx.cps[p]? = some 10
  · rw [decide_eq_true hnl]
    k_steps
    rename Fr _ _ _ _ => F6
    rename News _ _ _ _ => N6
    refine' hret _ _ _ _ _ ⟨_, _, _, _, _, _, rfl⟩ (onOf F6 (newsSub N6 ?mm))
    case mm => rw [show isNl tx p = 1 from if_pos hnl]; exact List.forall_mem_cons.mpr ⟨by k_mem, List.forall_mem_cons.mpr ⟨by k_mem, List.forall_mem_nil _⟩⟩
  · rw [decide_eq_false hnl]
    k_steps
    rename Fr _ _ _ _ => F6
    rename News _ _ _ _ => N6
    refine' hret _ _ _ _ _ ⟨_, _, _, _, _, _, rfl⟩ (onOf F6 (newsSub N6 ?mm))
    case mm => rw [show isNl tx p = 0 from if_neg hnl]; exact List.forall_mem_cons.mpr ⟨by k_mem, List.forall_mem_cons.mpr ⟨by k_mem, List.forall_mem_nil _⟩⟩
end
section
theorem rsLex4 : True := by w_top off; k_with_none; trivial
open PySem PySem.W PyProof.Rows PySem.Calls
theorem Gr.in1 {w : World} {mean : ExcName → Option Value} {mg mb : Str → Option Value} {A : Around} {n : Nat} {g : Heap} (G : Gr w mean mg mb A (n + 1) g) : Gr w mean mg mb A.in1 n g :=
  ⟨G.X, G.T, G.hh, by have := G.room; show A.depth + n < _; omega, by have := G.units; show A.units + 1 + 10 * n < _; omega⟩

/-- one turn of a for -/
theorem forStep1 {prog : Program} {w : World} {A : Around} {s : Shared} {R : Result → Shared → Prop} {x : Str} {px : Pos} {it : Value} {body : List Stmt} {env : Env}
    (turn : wpAny (model prog w) A (pyNext it) (fun r s₁ => match r with
      | none => R (.ok .next) s₁
      | some v => wpAny (model prog w) A (storeName env x v) (fun _ s₂ => wpAny (model prog w) A (execs body env) (fun f s₃ => match f with
          | .next | .cont => codeAny (model prog w) A (.forLoop (.Name x px) it body [] env) R s₃
          | .brk => R (.ok .next) s₃
          | .ret v => R (.ok (.ret v)) s₃) (fun _ _ => False) s₂) (fun _ _ => False) s₁) (fun _ _ => False) s) :
    codeAny (model prog w) A (.forLoop (.Name x px) it body [] env) R s := by
  refine codeAny_of_tree ?_
  show wpAny _ _ ((forTurn (.Name x px) it body [] env).onRaise (fun x => do noteFrame x env; theTreesLotGoes x)) _ _ s
  refine wpAny_noted ?_
  simp only [forTurn]
  refine wpAny_bind (wpAny_standAt (wpAny_bind (wpAny_onRaise (wpAny_mono turn (fun r s₁ h₁ => ?_) fun _ _ h' => h'.elim))))
  cases r with
  | none => exact wpAny_pure ⟨rfl, codeAny_block (wpAny_execs_nil h₁)⟩
  | some v =>
    refine wpAny_bind (wpAny_of_eq (a := ()) rfl ?_)
    refine wpAny_bind (wpAny_assign_Name (wpAny_mono h₁ (fun _ s₂ h₂ => wpAny_bind (wpAny_mono h₂ (fun f s₃ h₃ => ?_) fun _ _ h' => h'.elim)) fun _ _ h' => h'.elim))
    cases f with
    | next => exact wpAny_pure ⟨rfl, h₃⟩
    | cont => exact wpAny_pure ⟨rfl, h₃⟩
    | brk => exact wpAny_pure h₃
    | ret v => exact wpAny_pure h₃

theorem fnOfK {P : Params} {g : Heap} {f : Addr} {name qual : Str} {params : Arguments} {body : List Stmt} {scope : Scope} {dV kV doc pm cdv ct oc : Value} {an od : Option Addr} {osl : Array (Option Value)}
    (X : (dk.heap_1 P).In g) (ho : (dk.heap_1 P).lookup f = some ⟨oc, od, .func (fnOf name qual params body scope dV kV doc pm an cdv ct), osl⟩) : ∃ fo fd, g.get? f = some fo ∧ fo.data = .func fd :=
  ⟨_, _, X _ _ ho, rfl⟩
theorem ciStep {w : World} {mean : ExcName → Option Value} {mg mb : Str → Option Value} {A : Around} {g : Heap} {L : Addr} {mp : Str → Option Value} {s : Shared} {R : Result → Shared → Prop} {ch : Str} {px : Pos} {body : List Stmt} {env : Env}
    {x dx st la pb it mt : Addr} {tx : Str} {ln c p : Nat} {t tq : Tok} {es : List DictEntry} {rest : List (Addr × Obj)}
    (hl : LexAt w g x dx st la tx) (hes : LxEs w.params ln st pb es) (hp : p ≤ tx.cps.size) (hda : dx ≠ la)
    (F : Fr g L s.heap mp) (N : News g L s.heap ((dx, dictOf es 4) :: (la, listOf #[.int p t] c) :: (it, ciObj mt tq) :: (mt, mtObj 69 x) :: rest))
    (hdj : ∀ q ∈ (it, ciObj mt tq) :: (mt, mtObj 69 x) :: rest, q.1 ≠ dx ∧ q.1 ≠ la) (hI : dx ≠ it ∧ la ≠ it ∧ ∀ q ∈ rest, q.1 ≠ it) (G : Gr w mean mg mb A 7 g)
    (some_ : ∀ h' tk' es' t' tc cp, tx.cps[p]? = some cp → LxEs w.params (ln + isNl tx p) st pb es' → Fr g L h' mp → News g L h' ((dx, dictOf es' 4) :: (la, listOf #[.int ((p + 1 : Nat) : Int) t'] c) :: (it, ciObj mt tq) :: (mt, mtObj 69 x) :: rest) →
      wpAny (model VW w) A (storeName env ch (.str ⟨#[cp]⟩ tc)) (fun _ s₂ => wpAny (model VW w) A (execs body env) (fun f s₃ => match f with
          | .next | .cont => codeAny (model VW w) A (.forLoop (.Name ch px) (.ref it) body [] env) R s₃
          | .brk => R (.ok .next) s₃
          | .ret v => R (.ok (.ret v)) s₃) (fun _ _ => False) s₂) (fun _ _ => False) { s with heap := h', toks := tk' })
    (none_ : ∀ h' tk' es' t', tx.cps[p]? = none → LxEs w.params ln st pb es' → Fr g L h' mp → News g L h' ((dx, dictOf es' 4) :: (la, listOf #[.int (p : Int) t'] c) :: rest) → R (.ok .next) { s with heap := h', toks := tk' }) :
    codeAny (model VW w) A (.forLoop (.Name ch px) (.ref it) body [] env) R s := by
  have hf := G.X.keeps F.keep
  obtain ⟨fo, fd, hfo, hfd⟩ : ∃ fo fd, g.get? 69 = some fo ∧ fo.data = .func fd := by
    refine' fnOfK (f := 69) G.X ?k
    case k => k_is
  refine forStep1 (pyNext_ci G.hh (N (it, ciObj mt tq) (.tail _ (.tail _ (.head _)))).1 (N (mt, mtObj 69 x) (.tail _ (.tail _ (.tail _ (.head _))))).1 (F.keep _ _ hfo) hfd ?_)
  refine codeOn F N [(dx, dictOf es 4), (la, listOf #[.int p t] c)] ((it, ciObj mt tq) :: (mt, mtObj 69 x) :: rest) ?_ (fun q hq => .tail _ (.tail _ hq)) ?_ (fun g' st' sz' O' hg' hk' => ?_)
  · exact List.forall_mem_cons.mpr ⟨.head _, List.forall_mem_cons.mpr ⟨.tail _ (.head _), List.forall_mem_nil _⟩⟩
  · intro q hq r hr
    rcases List.mem_cons.mp hr with rfl | hr
    · exact (hdj q hq).1
    · rw [List.mem_singleton.mp hr]; exact (hdj q hq).2
  refine readChar (hl.keeps st' sz') hes hp hda O' ((G.in1.keeps st').le (by omega)) ?_
  intro h5 tk5 es5 t5 t5' hes5 O5
  refine ⟨_, h5, tk5, _, rfl, rfl, O5, fun F5 N5 => ?_⟩
  dsimp only [List.cons_append, List.nil_append] at N5
  have i1 := (N5 (it, ciObj mt tq) (.tail _ (.tail _ (.head _)))).1
  have i2 := (N5 (mt, mtObj 69 x) (.tail _ (.tail _ (.tail _ (.head _))))).1
  refine ⟨sgAt tx p, t5', rfl, i1, i2, F5.keep _ _ hfo, ?_, ?_⟩
  · intro hne
    cases hc : tx.cps[p]? with
    | none => exact absurd (show sgAt tx p = Str.ofString "" by unfold sgAt; rw [hc]; decide +kernel) hne
    | some cp =>
      have e1 : sgAt tx p = ⟨#[cp]⟩ := by unfold sgAt; rw [hc]
      have e2 : nxAt tx p = p + 1 := if_pos (by
        rcases Nat.lt_or_ge p tx.cps.size with h | h
        · exact h
        · rw [Array.getElem?_eq_none h] at hc; cases hc)
      rw [e2] at N5
      have := some_ h5 tk5 es5 t5 t5' cp hc hes5 F5 N5
      rw [← e1] at this
      exact this
  · intro he h6 hk6 hs6
    cases hc : tx.cps[p]? with
    | some cp =>
      exfalso
      have e1 : sgAt tx p = ⟨#[cp]⟩ := by unfold sgAt; rw [hc]
      rw [e1] at he
      have e9 := congrArg (fun s : Str => s.cps.size) he
      rw [show (Str.ofString "") = (⟨#[]⟩ : Str) by decide +kernel] at e9
      cases e9
    | none =>
      have e2 : nxAt tx p = p := if_neg (by
        intro h; rw [Array.getElem?_eq_getElem h] at hc; cases hc)
      have e3 : isNl tx p = 0 := if_neg (by rw [hc]; intro h; cases h)
      rw [e2] at N5
      rw [e3] at hes5
      have hit := N5 _ (.tail _ (.tail _ (.head _)))
      refine none_ h6 tk5 es5 t5 hc hes5 ⟨F5.ns.at' fun o e => hk6 _ _ hit.2.1.symm e, fun b o e => hk6 b o (fun q => by rw [q, hit.2.2] at e; cases e) (F5.keep b o e), F5.above⟩ fun q hq => ?_
      rcases List.mem_cons.mp hq with rfl | hq
      · have n := N5 _ (.head _)
        exact ⟨hk6 _ _ hI.1 n.1, n.2⟩
      rcases List.mem_cons.mp hq with rfl | hq
      · have n := N5 _ (.tail _ (.head _))
        exact ⟨hk6 _ _ hI.2.1 n.1, n.2⟩
      · have n := N5 _ (.tail _ (.tail _ (.tail _ (.tail _ hq))))
        exact ⟨hk6 _ _ (hI.2.2 q hq) n.1, n.2⟩

/-- a loop over the reading iterator: n turns that go on, then one that leaves -/
theorem ciLoop {w : World} {mean : ExcName → Option Value} {mg mb : Str → Option Value} {A : Around} {g : Heap} {L : Addr} {s : Shared} {R : Result → Shared → Prop} {ch : Str} {px : Pos} {body : List Stmt} {env : Env}
    {x dx st la pb it mt : Addr} {tx : Str} {ln c : Nat} {tq : Tok} {rest : List (Addr × Obj)}
    (n : Nat) (P : Nat → Nat) (J : Nat → (Str → Option Value) → Prop)
    (hl : LexAt w g x dx st la tx) (hP : ∀ i, i ≤ n → P i < tx.cps.size) (hda : dx ≠ la)
    (hdj : ∀ q ∈ (it, ciObj mt tq) :: (mt, mtObj 69 x) :: rest, q.1 ≠ dx ∧ q.1 ≠ la) (hI : dx ≠ it ∧ la ≠ it ∧ ∀ q ∈ rest, q.1 ≠ it) (G : Gr w mean mg mb A 7 g)
    {mp : Str → Option Value} {es : List DictEntry} {t : Tok} (hes : LxEs w.params ln st pb es) (F : Fr g L s.heap mp) (N : News g L s.heap ((dx, dictOf es 4) :: (la, listOf #[.int (P 0 : Nat) t] c) :: (it, ciObj mt tq) :: (mt, mtObj 69 x) :: rest)) (hJ : J 0 mp)
    (turn : ∀ i mp' h' tk' es' t' tc cp, i < n → tx.cps[P i]? = some cp → J i mp' → LxEs w.params (ln + isNl tx (P i)) st pb es' → Fr g L h' mp' → News g L h' ((dx, dictOf es' 4) :: (la, listOf #[.int ((P i + 1 : Nat) : Int) t'] c) :: (it, ciObj mt tq) :: (mt, mtObj 69 x) :: rest) →
      wpAny (model VW w) A (storeName env ch (.str ⟨#[cp]⟩ tc)) (fun _ s₂ => wpAny (model VW w) A (execs body env) (fun f s₃ => match f with
          | .next | .cont => Ex5 fun h' tk' mp' es' t' => C5 (s₃ = { s with heap := h', toks := tk' }) (LxEs w.params ln st pb es') (Fr g L h' mp') (News g L h' ((dx, dictOf es' 4) :: (la, listOf #[.int (P (i + 1) : Nat) t'] c) :: (it, ciObj mt tq) :: (mt, mtObj 69 x) :: rest)) (J (i + 1) mp')
          | .brk => R (.ok .next) s₃
          | .ret v => R (.ok (.ret v)) s₃) (fun _ _ => False) s₂) (fun _ _ => False) { s with heap := h', toks := tk' })
    (last : ∀ mp' h' tk' es' t' tc cp, tx.cps[P n]? = some cp → J n mp' → LxEs w.params (ln + isNl tx (P n)) st pb es' → Fr g L h' mp' → News g L h' ((dx, dictOf es' 4) :: (la, listOf #[.int ((P n + 1 : Nat) : Int) t'] c) :: (it, ciObj mt tq) :: (mt, mtObj 69 x) :: rest) →
      wpAny (model VW w) A (storeName env ch (.str ⟨#[cp]⟩ tc)) (fun _ s₂ => wpAny (model VW w) A (execs body env) (fun f s₃ => match f with
          | .next | .cont => False
          | .brk => R (.ok .next) s₃
          | .ret v => R (.ok (.ret v)) s₃) (fun _ _ => False) s₂) (fun _ _ => False) { s with heap := h', toks := tk' }) :
    codeAny (model VW w) A (.forLoop (.Name ch px) (.ref it) body [] env) R s := by
  have go : ∀ k i, i + k = n → ∀ h tk mp es t, LxEs w.params ln st pb es → Fr g L h mp → News g L h ((dx, dictOf es 4) :: (la, listOf #[.int (P i : Nat) t] c) :: (it, ciObj mt tq) :: (mt, mtObj 69 x) :: rest) → J i mp →
      codeAny (model VW w) A (.forLoop (.Name ch px) (.ref it) body [] env) R { s with heap := h, toks := tk } := by
    intro k
    induction k with
    | zero =>
      intro i hi h tk mp es t hes F N hJ
      obtain rfl : i = n := by omega
      refine ciStep (s := { s with heap := h, toks := tk }) hl hes (Nat.le_of_lt (hP i (Nat.le_refl _))) hda F N hdj hI G ?_ ?_
      · intro h' tk' es' t' tc cp hc hes' F' N'
        refine wpAny_mono (last mp h' tk' es' t' tc cp hc hJ hes' F' N') (fun _ s₂ h₂ => wpAny_mono h₂ (fun f s₃ h₃ => ?_) fun _ _ e => e) fun _ _ e => e
        cases f with
        | next => exact h₃.elim
        | cont => exact h₃.elim
        | brk => exact h₃
        | ret v => exact h₃
      · intro h' tk' es' t' hc
        rw [Array.getElem?_eq_getElem (hP i (Nat.le_refl _))] at hc; cases hc
    | succ k ih =>
      intro i hi h tk mp es t hes F N hJ
      refine ciStep (s := { s with heap := h, toks := tk }) hl hes (Nat.le_of_lt (hP i (by omega))) hda F N hdj hI G ?_ ?_
      · intro h' tk' es' t' tc cp hc hes' F' N'
        refine wpAny_mono (turn i mp h' tk' es' t' tc cp (by omega) hc hJ hes' F' N') (fun _ s₂ h₂ => wpAny_mono h₂ (fun f s₃ h₃ => ?_) fun _ _ e => e) fun _ _ e => e
        have fin : (Ex5 fun h' tk' mp' es' t' => C5 (s₃ = { s with heap := h', toks := tk' }) (LxEs w.params ln st pb es') (Fr g L h' mp') (News g L h' ((dx, dictOf es' 4) :: (la, listOf #[.int (P (i + 1) : Nat) t'] c) :: (it, ciObj mt tq) :: (mt, mtObj 69 x) :: rest)) (J (i + 1) mp')) →
            codeAny (model VW w) A (.forLoop (.Name ch px) (.ref it) body [] env) R s₃ := by
          rintro ⟨h5, tk5, mp5, es5, t5, rfl, a1, a2, a3, a4⟩
          exact ih (i + 1) (by omega) h5 tk5 mp5 es5 t5 a1 a2 a3 a4
        cases f with
        | next => exact fin h₃
        | cont => exact fin h₃
        | brk => exact h₃
        | ret v => exact h₃
      · intro h' tk' es' t' hc
        rw [Array.getElem?_eq_getElem (hP i (by omega))] at hc; cases hc
  exact go n 0 (by omega) s.heap s.toks mp es t hes F N hJ

/-- a line end ahead is passed over -/
theorem ciSkip {w : World} {mean : ExcName → Option Value} {mg mb : Str → Option Value} {A : Around} {g : Heap} {L : Addr} {s : Shared} {R : Result → Shared → Prop} {ch : Str} {px : Pos} {body : List Stmt} {env : Env}
    {x dx st la pb it mt : Addr} {tx : Str} {ln c p nl : Nat} {tq : Tok} {rest : List (Addr × Obj)}
    (J : (Str → Option Value) → Prop) (hn : nl = 0 ∨ nl = 1 ∧ tx.cps[p]? = some 10)
    (hl : LexAt w g x dx st la tx) (hda : dx ≠ la)
    (hdj : ∀ q ∈ (it, ciObj mt tq) :: (mt, mtObj 69 x) :: rest, q.1 ≠ dx ∧ q.1 ≠ la) (hI : dx ≠ it ∧ la ≠ it ∧ ∀ q ∈ rest, q.1 ≠ it) (G : Gr w mean mg mb A 7 g)
    {mp : Str → Option Value} {es : List DictEntry} {t : Tok} (hes : LxEs w.params ln st pb es) (F : Fr g L s.heap mp) (N : News g L s.heap ((dx, dictOf es 4) :: (la, listOf #[.int (p : Nat) t] c) :: (it, ciObj mt tq) :: (mt, mtObj 69 x) :: rest)) (hJ : J mp)
    (turn : ∀ mp' h' tk' es' t' tc, J mp' → LxEs w.params (ln + 1) st pb es' → Fr g L h' mp' → News g L h' ((dx, dictOf es' 4) :: (la, listOf #[.int ((p + 1 : Nat) : Int) t'] c) :: (it, ciObj mt tq) :: (mt, mtObj 69 x) :: rest) →
      wpAny (model VW w) A (storeName env ch (.str ⟨#[10]⟩ tc)) (fun _ s₂ => wpAny (model VW w) A (execs body env) (fun f s₃ => match f with
          | .next | .cont => Ex5 fun h' tk' mp' es' t' => C5 (s₃ = { s with heap := h', toks := tk' }) (LxEs w.params (ln + 1) st pb es') (Fr g L h' mp') (News g L h' ((dx, dictOf es' 4) :: (la, listOf #[.int ((p + 1 : Nat) : Int) t'] c) :: (it, ciObj mt tq) :: (mt, mtObj 69 x) :: rest)) (J mp')
          | .brk => R (.ok .next) s₃
          | .ret v => R (.ok (.ret v)) s₃) (fun _ _ => False) s₂) (fun _ _ => False) { s with heap := h', toks := tk' })
    (core : ∀ mp' h' tk' es' t', J mp' → LxEs w.params (ln + nl) st pb es' → Fr g L h' mp' → News g L h' ((dx, dictOf es' 4) :: (la, listOf #[.int ((p + nl : Nat) : Int) t'] c) :: (it, ciObj mt tq) :: (mt, mtObj 69 x) :: rest) →
      codeAny (model VW w) A (.forLoop (.Name ch px) (.ref it) body [] env) R { s with heap := h', toks := tk' }) :
    codeAny (model VW w) A (.forLoop (.Name ch px) (.ref it) body [] env) R s := by
  rcases hn with rfl | ⟨rfl, h10⟩
  · exact core mp s.heap s.toks es t hJ hes F N
  · have hlt : p < tx.cps.size := by
      rcases Nat.lt_or_ge p tx.cps.size with h | h
      · exact h
      · rw [Array.getElem?_eq_none h] at h10; cases h10
    refine ciStep hl hes (Nat.le_of_lt hlt) hda F N hdj hI G ?_ ?_
    · intro h' tk' es' t' tc cp hc hes' F' N'
      obtain rfl : cp = 10 := Option.some.inj (hc.symm.trans h10)
      rw [show isNl tx p = 1 from if_pos h10] at hes'
      refine wpAny_mono (turn mp h' tk' es' t' tc hJ hes' F' N') (fun _ s₂ h₂ => wpAny_mono h₂ (fun f s₃ h₃ => ?_) fun _ _ e => e) fun _ _ e => e
      have fin : (Ex5 fun h' tk' mp' es' t' => C5 (s₃ = { s with heap := h', toks := tk' }) (LxEs w.params (ln + 1) st pb es') (Fr g L h' mp') (News g L h' ((dx, dictOf es' 4) :: (la, listOf #[.int ((p + 1 : Nat) : Int) t'] c) :: (it, ciObj mt tq) :: (mt, mtObj 69 x) :: rest)) (J mp')) →
          codeAny (model VW w) A (.forLoop (.Name ch px) (.ref it) body [] env) R s₃ := by
        rintro ⟨h5, tk5, mp5, es5, t5, rfl, a1, a2, a3, a4⟩
        exact core mp5 h5 tk5 es5 t5 a4 a1 a2 a3
      cases f with
      | next => exact fin h₃
      | cont => exact fin h₃
      | brk => exact h₃
      | ret v => exact h₃
    · intro h' tk' es' t' hc
      rw [h10] at hc; cases hc

theorem args_iter2 (a b : Value) : argsOk "iter" ⟨[a, b], []⟩ := by unfold argsOk; kernel_rfl
theorem mt_call : typeLookup (.type "method") "__call__" = pure (some (.builtin "method.__call__")) := by rw [typeLookup_type, builtinLookup_eq_fast]; kernel_rfl
theorem iterCi {w : World} {A : Around} {E : Value → Shared → Prop} {s : Shared} {g : Heap} {L m f x : Addr} {mp : Str → Option Value} {news : List (Addr × Obj)} {t : Tok} {Q : Value → Shared → Prop}
    (F : Fr g L s.heap mp) (N : News g L s.heap news) (hm : (m, mtObj f x) ∈ news)
    (h : ∀ I h', Fr g L h' mp → News g L h' ((I, ciObj m t) :: news) → (∀ p ∈ news, p.1 < I) → Q (.ref I) { s with heap := h' }) :
    wpAny (model VW w) A (call (.builtin "iter") [.ref m, .str (Str.ofString "") t]) Q E s := by
  have hT : s.TypeIs (.ref m) "method" := ⟨_, (N _ hm).1, rfl⟩
  refine call_function_entry (by decide +kernel) (by decide +kernel) kdk_entry_iter (args_iter2 _ _) ?_
  unfold Builtin.«iter»
  refine wpAny_bind (m := someArgs "iter" 1 2 _) (wpAny_of_eq (a := [Value.ref m, .str (Str.ofString "") t]) (by first | rfl | kernel_rfl!) ?_)
  show wpAny _ _ (specialOf (.ref m) _ >>= _) _ _ _
  refine wpAny_bind (wpAny_specialOf hT mt_call ?_)
  show wpAny _ _ (rule _ >>= _) _ _ _
  refine wpAny_bind (wpAny_rule ?_)
  show wpAny _ _ (newFields _ _ >>= _) _ _ _
  unfold newFields
  refine wpAny_bind (wpAny_newObj_type ?_ (by size_fits))
  exact wpAny_pure ⟨_, rfl, h _ _ (F.push _) (News.push F N _ rfl) (fun q hq => Heap.lt_size (N q hq).1)⟩
end
section
theorem rsLex5 : True := by w_top off; k_with_none; trivial
open PySem PySem.W PyProof.Rows PySem.Calls
/-- what stands at a place of the text: word, place behind it, line ends in it -/
inductive LexTo (tx : Str) (p : Nat) : List Nat → Nat → Nat → Prop
  | eof : tx.cps[p]? = none → LexTo tx p [] p 0
  | quo (w : List Nat) : tx.cps[p]? = some 34 → (∀ i, i < w.length → tx.cps[p + 1 + i]? = w[i]?) → (∀ c ∈ w, c ≠ 34 ∧ c ≠ 92 ∧ c ≠ 10) → tx.cps[p + 1 + w.length]? = some 34 → LexTo tx p w (p + w.length + 2) 0
  | esc (w : List Nat) : w ≠ [] → (∀ i, i < w.length → tx.cps[p + 2 * i]? = some 92 ∧ tx.cps[p + 2 * i + 1]? = w[i]?) → (∀ c ∈ w, c ≠ 10) → tx.cps[p + 2 * w.length]? = some 10 → LexTo tx p w (p + 2 * w.length + 1) 1

theorem sg_ne {c d : Nat} {y : Str} (h : c ≠ d) (e : y = ⟨#[d]⟩) : ((⟨#[c]⟩ : Str) == y) = false := by
  rw [e, beq_eq_false_iff_ne]
  intro q; exact h (Option.some.inj (congrArg (fun s : Str => s.cps.toList.head?) q))
theorem appTake {wo : List Nat} {i cp : Nat} (h : wo[i]? = some cp) : (⟨(wo.take i).toArray⟩ : Str) ++ (⟨#[cp]⟩ : Str) = ⟨(wo.take (i + 1)).toArray⟩ := by
  show Str.mk _ = Str.mk _
  congr 1
  rw [List.take_add_one, h]
  apply Array.toList_inj.mp
  simp
theorem ws10 : (!(Builtin.Str.occurrences (Str.ofString "\n\t\r ") (Str.ofString "\n") 0 (Str.ofString "\n\t\r ").length 1).isEmpty) = true := by decide +kernel
theorem ws34 : (!(Builtin.Str.occurrences (Str.ofString "\n\t\r ") (Str.ofString "\"") 0 (Str.ofString "\n\t\r ").length 1).isEmpty) = false := by decide +kernel
theorem ws92 : (!(Builtin.Str.occurrences (Str.ofString "\n\t\r ") (Str.ofString "\\") 0 (Str.ofString "\n\t\r ").length 1).isEmpty) = false := by decide +kernel
theorem getTok {w : World} {mean : ExcName → Option Value} {mg mb : Str → Option Value} {A : Around} {g : Heap} {s : Shared} {R : Result → Shared → Prop}
  {x dx st la pb : Addr} {tx : Str} {ln c cb p nl p' dl : Nat} {t : Tok} {es : List DictEntry} {wo : List Nat} (hl : LexAt w g x dx st la tx) (hes : LxEs w.params ln st pb es) (hda : dx ≠ la) (hdb : dx ≠ pb) (hab : la ≠ pb)
  (hn : nl = 0 ∨ nl = 1 ∧ tx.cps[p]? = some 10) (hp : p + nl ≤ tx.cps.size) (wsz : wo.length ≤ 100) (hx : LexTo tx (p + nl) wo p' dl)
  (O : On g s.heap [(dx, dictOf es 4), (la, listOf #[.int p t] c), (pb, listOf #[] cb)]) (G : Gr w mean mg mb A 10 g)
  (hret : ∀ h' tk' es' t' t'', LxEs w.params (ln + nl + dl) st pb es' → On g h' [(dx, dictOf es' 4), (la, listOf #[.int p' t'] c), (pb, listOf #[] cb)] → R (.ok (.ret (.str ⟨wo.toArray⟩ t''))) { s with heap := h', toks := tk' }) :
  codeAny (model VW w) A (.call (.ref 76) ⟨[.ref x], []⟩) R s := by
  obtain ⟨hdl, dp, fr, gd, un⟩ := A
  obtain rfl : hdl = none := G.hh
  have hes' := hes
  obtain ⟨t1, t2, t3, t4, t5, t6, rfl⟩ := hes
  refine' enterK (binds := [(Str.ofString "self", .ref x)]) O G ?k6 ?k7 ?k9 ?kB ?_ ?c2 ?c3 ?c4 ?c5
  case k6 => k_is
  case k7 => k_is
  case k9 => exact BindsTo.of_eq rfl
  case c5 => decide
  case kB => exact locs rfl
  case c2 => exact rfl
  case c3 => exact rfl
  case c4 => exact rfl
  intro L' h' F' N' l1 X' T' G'
  (try dsimp only)
  k_lt l1
  have hxx := hl.1
  have nda := neN hda
  have ndb := neN hdb
  have nab := neN hab
  k_with "stop" => (with_reducible show wpAny _ _ (call (Value.builtin "iter") _ _) _ _ _)
  k_steps
  rename News _ _ _ _ => N1
  rename Fr _ _ _ _ => F1
  refine' iterCi F1 N1 ?m ?_
  case m => k_mem
  intro it h2 F2 N2 lit
  clear F1 N1
  k_lt lit
  k_with "stop" => (with_reducible show wpAny _ _ (exec (Stmt.For _ _ _ _ _) _) _ _ _)
  k_steps
  rename News _ _ _ _ => N3
  rename Fr _ _ _ _ => F3
  refine for_ ?_
  k_with "stop" => (with_reducible show wpAny _ _ (pyIter _) _ _ _)
  k_steps
  rename_i _ _ q' _ lq _ _ _
  refine pyIter_ci (N3 (it, ciObj q' _) (.head _)).1 ?_
  have N4 := newsSub (news' := [(dx, dictOf _ 4), (la, listOf #[.int p t] c), (it, ciObj q' _), (q', mtObj 69 x), (pb, listOf #[] cb)]) N3 (List.forall_mem_cons.mpr ⟨by k_mem, List.forall_mem_cons.mpr ⟨by k_mem, List.forall_mem_cons.mpr ⟨by k_mem, List.forall_mem_cons.mpr ⟨by k_mem, List.forall_mem_cons.mpr ⟨by k_mem, List.forall_mem_nil _⟩⟩⟩⟩⟩)
  clear N3
  refine' ciSkip (c := c) (p := p) (nl := nl) (rest := [(pb, listOf #[] cb)]) (fun mp => mp (Str.ofString "self") = some (.ref x) ∧ mp (Str.ofString "fiter") = some (.ref it) ∧ ∃ tt, mp (Str.ofString "token") = some (.str (Str.ofString "") tt)) hn hl hda ?hdj ?hI (G'.le (by omega)) hes' F3 N4 ⟨rfl, rfl, _, rfl⟩ ?turn ?core
  case hdj => exact List.forall_mem_cons.mpr ⟨⟨by k_ne, by k_ne⟩, List.forall_mem_cons.mpr ⟨⟨by k_ne, by k_ne⟩, List.forall_mem_cons.mpr ⟨⟨by k_ne, by k_ne⟩, List.forall_mem_nil _⟩⟩⟩
  case hI => exact ⟨by k_ne, by k_ne, List.forall_mem_cons.mpr ⟨by k_ne, List.forall_mem_nil _⟩⟩
  case turn =>
    rintro mp h5 tk5 es5 t5' tc ⟨j1, j2, tt, j3⟩ hes5 F5 N5
    clear F3 N4 F' N' hes' O
    have F6 := Fr.as F5 [(Str.ofString "self", .ref x), (Str.ofString "fiter", .ref it), (Str.ofString "token", .str (Str.ofString "") tt)] (List.forall_mem_cons.mpr ⟨j1, List.forall_mem_cons.mpr ⟨j2, List.forall_mem_cons.mpr ⟨j3, List.forall_mem_nil _⟩⟩⟩)
    clear F5
    obtain ⟨u1, u2, u3, u4, u5, u6, rfl⟩ := hes5
    rw [show (⟨#[10]⟩ : Str) = Str.ofString "\n" by decide +kernel]
    k_with "stop" => (with_reducible show wpAny _ _ (compareOp CmpOp.In _ _) _ _ _)
    k_steps
    refine in_str ?_
    rw [ws10]
    k_with "stop" => (with_reducible show Exists _)
    k_steps
    rename News _ _ _ _ => N7
    rename Fr _ _ _ _ => F7
    exact ⟨_, _, _, _, _, rfl, ⟨_, _, _, _, _, _, rfl⟩, F7, N7, rfl, rfl, _, rfl⟩
  case core =>
    rintro mp h5 tk5 es5 t5' ⟨j1, j2, tt, j3⟩ hes5 F5 N5
    clear F3 N4 F' N' hes' O
    have F6 := Fr.as F5 [(Str.ofString "self", .ref x), (Str.ofString "fiter", .ref it), (Str.ofString "token", .str (Str.ofString "") tt)] (List.forall_mem_cons.mpr ⟨j1, List.forall_mem_cons.mpr ⟨j2, List.forall_mem_cons.mpr ⟨j3, List.forall_mem_nil _⟩⟩⟩)
    clear F5
    have hdj : ∀ tq : Tok, ∀ q ∈ [(it, ciObj q' tq), (q', mtObj 69 x), (pb, listOf #[] cb)], q.1 ≠ dx ∧ q.1 ≠ la := fun _ => List.forall_mem_cons.mpr ⟨⟨by k_ne, by k_ne⟩, List.forall_mem_cons.mpr ⟨⟨by k_ne, by k_ne⟩, List.forall_mem_cons.mpr ⟨⟨by k_ne, by k_ne⟩, List.forall_mem_nil _⟩⟩⟩
    have hI : dx ≠ it ∧ la ≠ it ∧ ∀ q ∈ [(pb, listOf #[] cb)], q.1 ≠ it := ⟨by k_ne, by k_ne, List.forall_mem_cons.mpr ⟨by k_ne, List.forall_mem_nil _⟩⟩
    cases hx with
    | eof h0 =>
      refine ciStep (s := { s with heap := h5, toks := tk5 }) hl hes5 hp hda F6 N5 (hdj _) hI (G'.le (by omega)) (fun _ _ _ _ _ _ hc => by rw [h0] at hc; cases hc) ?_
      intro h8 tk8 es8 t8 _ hes8 F8 N8
      clear F6 N5
      dsimp only
      k_with_none
      k_steps
      rw [show Str.ofString "" = (⟨([] : List Nat).toArray⟩ : Str) by decide +kernel]
      exact hret _ _ _ _ _ hes8 (onOf F8 N8)
    | quo _ h1 h2 h3 h4 =>
      have lt1 : ∀ i c, tx.cps[i]? = some c → i < tx.cps.size := fun i c h => by
        rcases Nat.lt_or_ge i tx.cps.size with h' | h'
        · exact h'
        · rw [Array.getElem?_eq_none h'] at h; cases h
      refine ciStep (s := { s with heap := h5, toks := tk5 }) hl hes5 hp hda F6 N5 (hdj _) hI (G'.le (by omega)) ?_ (fun _ _ _ _ hc => by rw [h1] at hc; cases hc)
      intro h8 tk8 es8 t8 tc cp hcp hes8 F8 N8
      clear F6 N5
      obtain rfl : cp = 34 := Option.some.inj (hcp.symm.trans h1)
      rw [show isNl tx (p + nl) = 0 from if_neg (by rw [h1]; decide)] at hes8
      have hes9 := hes8
      obtain ⟨u1, u2, u3, u4, u5, u6, rfl⟩ := hes8
      rw [show (⟨#[34]⟩ : Str) = Str.ofString "\"" by decide +kernel]
      k_with "stop" => (with_reducible show wpAny _ _ (compareOp CmpOp.In _ _) _ _ _)
      k_steps
      refine in_str ?_
      rw [ws34]
      k_with "stop" => (with_reducible show wpAny _ _ (exec (Stmt.For _ _ _ _ _) _) _ _ _)
      k_steps
      rename News _ _ _ _ => N9
      rename Fr _ _ _ _ => F9
      refine for_ ?_
      k_with "stop" => (with_reducible show wpAny _ _ (pyIter _) _ _ _)
      k_steps
      refine pyIter_ci (N9 (it, ciObj q' _) (.tail _ (.tail _ (.head _)))).1 ?_
      refine' ciLoop (ln := ln + nl) (c := c) (rest := [(pb, listOf #[] cb)]) wo.length (fun i => p + nl + 1 + i) (fun i mp => mp (Str.ofString "self") = some (.ref x) ∧ mp (Str.ofString "fiter") = some (.ref it) ∧ ∃ tt, mp (Str.ofString "token") = some (.str ⟨(wo.take i).toArray⟩ tt)) hl ?hP hda (hdj _) hI (G'.le (by omega)) hes9 F9 N9 ⟨rfl, rfl, tt, ?tok⟩ ?turn ?last
      case hP => 
        intro i hi
        have := lt1 _ _ h4
        omega
      case tok =>
        rw [List.take_zero, show (⟨([] : List Nat).toArray⟩ : Str) = Str.ofString "" by decide +kernel]; rfl
      case turn =>
        rintro i mp h10 tk10 es10 t10 tc10 cp hi hcp ⟨j1, j2, tt, j3⟩ hes10 F10 N10
        clear F9 N9
        have hcw : wo[i]? = some cp := by rw [← h2 i hi]; exact hcp
        have hmem : cp ∈ wo := List.mem_of_getElem? hcw
        obtain ⟨n34, n92, n10⟩ := h3 cp hmem
        rw [show isNl tx (p + nl + 1 + i) = 0 from if_neg (by rw [hcp]; intro e; exact n10 (Option.some.inj e))] at hes10
        have hes11 := hes10
        have F11 := Fr.as F10 [(Str.ofString "self", .ref x), (Str.ofString "fiter", .ref it), (Str.ofString "token", .str ⟨(wo.take i).toArray⟩ tt)] (List.forall_mem_cons.mpr ⟨j1, List.forall_mem_cons.mpr ⟨j2, List.forall_mem_cons.mpr ⟨j3, List.forall_mem_nil _⟩⟩⟩)
        clear F10
        k_with "stop" => (with_reducible show wpAny _ _ (compareOp CmpOp.Eq _ _) _ _ _)
        k_steps
        refine eq_str ?_
        rw [sg_ne n34 (show Str.ofString "\"" = ⟨#[34]⟩ by decide +kernel)]
        k_steps
        refine eq_str ?_
        rw [sg_ne n92 (show Str.ofString "\\" = ⟨#[92]⟩ by decide +kernel)]
        k_with "stop" => (with_reducible show wpAny _ _ (inplaceOp _ _ _) _ _ _)
        k_steps
        refine iadd_str ?_ ?_
        · intro t12 tk12
          rw [appTake hcw]
          k_with "stop" => (with_reducible show Exists _)
          k_steps
          rename News _ _ _ _ => N13
          rename Fr _ _ _ _ => F13
          exact ⟨_, _, _, _, _, rfl, hes11, F13, N13, rfl, rfl, _, rfl⟩
        · have := lt1 _ _ h4
          have := wsz
          show (List.take i wo).toArray.size + 1 ≤ sizeLine
          rw [sizeLine_eq, List.size_toArray, List.length_take]; omega
      case last =>
        rintro mp h10 tk10 es10 t10 tc10 cp hcp ⟨j1, j2, tt, j3⟩ hes10 F10 N10
        clear F9 N9
        obtain rfl : cp = 34 := Option.some.inj (hcp.symm.trans h4)
        rw [show isNl tx (p + nl + 1 + wo.length) = 0 from if_neg (by rw [h4]; decide)] at hes10
        have F11 := Fr.as F10 [(Str.ofString "self", .ref x), (Str.ofString "fiter", .ref it), (Str.ofString "token", .str ⟨(wo.take wo.length).toArray⟩ tt)] (List.forall_mem_cons.mpr ⟨j1, List.forall_mem_cons.mpr ⟨j2, List.forall_mem_cons.mpr ⟨j3, List.forall_mem_nil _⟩⟩⟩)
        clear F10
        rw [show (⟨#[34]⟩ : Str) = Str.ofString "\"" by decide +kernel]
        k_with_none
        k_steps
        rename News _ _ _ _ => N13
        rename Fr _ _ _ _ => F13
        rw [List.take_length]
        refine' hret _ _ _ _ _ hes10 (onOf F13 (newsSub N13 ?mm))
        case mm => exact List.forall_mem_cons.mpr ⟨by k_mem, List.forall_mem_cons.mpr ⟨by rw [show p + nl + wo.length + 2 = p + nl + 1 + wo.length + 1 by omega]; k_mem, List.forall_mem_cons.mpr ⟨by k_mem, List.forall_mem_nil _⟩⟩⟩
    | esc _ h0 h1 h2 h3 =>
      have lt1 : ∀ i c, tx.cps[i]? = some c → i < tx.cps.size := fun i c h => by
        rcases Nat.lt_or_ge i tx.cps.size with h' | h'
        · exact h'
        · rw [Array.getElem?_eq_none h'] at h; cases h
      have hpos : 0 < wo.length := List.length_pos_iff.mpr h0
      have rd : ∀ i, i < wo.length → ∃ ci, wo[i]? = some ci ∧ sgAt tx (p + nl + 2 * i + 1) = ⟨#[ci]⟩ ∧ nxAt tx (p + nl + 2 * i + 1) = p + nl + 2 * (i + 1) ∧ isNl tx (p + nl + 2 * i + 1) = 0 := by
        intro i hi
        have a := (h1 i hi).2
        have b : wo[i]? = some wo[i] := List.getElem?_eq_getElem hi
        rw [b] at a
        refine ⟨_, b, ?_, ?_, ?_⟩
        · unfold sgAt; rw [a]
        · unfold nxAt; rw [if_pos (lt1 _ _ a)]; omega
        · exact if_neg (by rw [a]; intro e; exact h2 _ (List.getElem_mem hi) (Option.some.inj e))
      refine ciStep (s := { s with heap := h5, toks := tk5 }) hl hes5 hp hda F6 N5 (hdj _) hI (G'.le (by omega)) ?_ (fun _ _ _ _ hc => by have := (h1 0 hpos).1; rw [Nat.mul_zero, Nat.add_zero] at this; rw [this] at hc; cases hc)
      intro h8 tk8 es8 t8 tc cp hcp hes8 F8 N8
      clear F6 N5
      obtain ⟨h1a, h1b⟩ := h1 0 hpos
      rw [Nat.mul_zero, Nat.add_zero] at h1a h1b
      obtain rfl : cp = 92 := Option.some.inj (hcp.symm.trans h1a)
      rw [show isNl tx (p + nl) = 0 from if_neg (by rw [h1a]; decide)] at hes8
      have hes9 := hes8
      obtain ⟨u1, u2, u3, u4, u5, u6, rfl⟩ := hes8
      rw [show (⟨#[92]⟩ : Str) = Str.ofString "\\" by decide +kernel]
      k_with "stop" => (with_reducible show wpAny _ _ (compareOp CmpOp.In _ _) _ _ _)
      k_steps
      refine in_str ?_
      rw [ws92]
      k_with "stop" => (with_reducible show wpAny _ _ (call (Value.ref _) _ _) _ _ _)
      k_steps
      rename News _ _ _ _ => N9
      rename Fr _ _ _ _ => F9
      refine callOn F9 N9 [(dx, dictOf _ 4), (la, listOf #[.int ((p + nl + 1 : Nat) : Int) t8] c)] [(it, ciObj q' _), (q', mtObj 69 x), (pb, listOf #[] cb)] (List.forall_mem_cons.mpr ⟨.head _, List.forall_mem_cons.mpr ⟨.tail _ (.head _), List.forall_mem_nil _⟩⟩) (fun q hq => .tail _ (.tail _ hq)) ?_ (fun g' st' sz' O' hg' hk' => ?_)
      · intro q hq r hr
        rcases List.mem_cons.mp hr with rfl | hr
        · exact (hdj _ q hq).1
        · rw [List.mem_singleton.mp hr]; exact (hdj _ q hq).2
      refine readChar (hl.keeps st' sz') hes9 (by have := lt1 _ _ h3; omega) hda O' ((G'.keeps st').le (by omega)) ?_
      intro h10 tk10 es10 t10 t10' hes10 O10
      refine ⟨_, h10, tk10, _, rfl, rfl, O10, fun F10 N10 => ?_⟩
      clear F9 N9 O10 O' hg' hk' st' sz'
      dsimp only [List.cons_append, List.nil_append] at N10
      obtain ⟨c0, hc0, e1, e2, e3⟩ := rd 0 hpos
      rw [Nat.mul_zero, Nat.add_zero] at e1 e2 e3
      rw [e2] at N10
      rw [e3] at hes10
      rw [e1]
      have hes11 := hes10
      obtain ⟨u1, u2, u3, u4, u5, u6, rfl⟩ := hes10
      k_with "stop" => (with_reducible show wpAny _ _ (inplaceOp _ _ _) _ _ _)
      k_steps
      rw [show Str.ofString "" = (⟨(wo.take 0).toArray⟩ : Str) by rw [List.take_zero]; decide +kernel]
      refine' iadd_str ?go ?sz
      case sz =>
        show (List.take 0 wo).toArray.size + 1 ≤ sizeLine
        rw [sizeLine_eq, List.size_toArray, List.length_take]; omega
      intro t12 tk12
      rw [appTake hc0]
      k_with "stop" => (with_reducible show wpAny _ _ (exec (Stmt.For _ _ _ _ _) _) _ _ _)
      k_steps
      rename News _ _ _ _ => N13
      rename Fr _ _ _ _ => F13
      refine for_ ?_
      k_with "stop" => (with_reducible show wpAny _ _ (pyIter _) _ _ _)
      k_steps
      refine pyIter_ci (N13 (it, ciObj q' _) (.tail _ (.tail _ (.head _)))).1 ?_
      refine' ciLoop (ln := ln + nl) (c := c) (rest := [(pb, listOf #[] cb)]) (wo.length - 1) (fun i => p + nl + 2 * (i + 1)) (fun i mp => mp (Str.ofString "self") = some (.ref x) ∧ mp (Str.ofString "fiter") = some (.ref it) ∧ ∃ tt, mp (Str.ofString "token") = some (.str ⟨(wo.take (i + 1)).toArray⟩ tt)) hl ?hP hda (hdj _) hI (G'.le (by omega)) hes11 F13 N13 ⟨rfl, rfl, _, rfl⟩ ?turn ?last
      case hP =>
        intro i hi
        have := lt1 _ _ h3
        omega
      case turn =>
        rintro i mp h14 tk14 es14 t14 tc14 cp hi hcp ⟨j1, j2, tt, j3⟩ hes14 F14 N14
        clear F13 N13
        obtain ⟨h1a, h1b⟩ := h1 (i + 1) (by omega)
        obtain rfl : cp = 92 := Option.some.inj (hcp.symm.trans h1a)
        rw [show isNl tx (p + nl + 2 * (i + 1)) = 0 from if_neg (by rw [h1a]; decide)] at hes14
        have hes15 := hes14
        obtain ⟨v1, v2, v3, v4, v5, v6, rfl⟩ := hes14
        have F15 := Fr.as F14 [(Str.ofString "self", .ref x), (Str.ofString "fiter", .ref it), (Str.ofString "token", .str ⟨(wo.take (i + 1)).toArray⟩ tt)] (List.forall_mem_cons.mpr ⟨j1, List.forall_mem_cons.mpr ⟨j2, List.forall_mem_cons.mpr ⟨j3, List.forall_mem_nil _⟩⟩⟩)
        clear F14
        rw [show (⟨#[92]⟩ : Str) = Str.ofString "\\" by decide +kernel]
        k_with "stop" => (with_reducible show wpAny _ _ (compareOp CmpOp.In _ _) _ _ _)
        k_steps
        refine in_str ?_
        rw [ws92]
        k_with "stop" => (with_reducible show wpAny _ _ (call (Value.ref _) _ _) _ _ _)
        k_steps
        rename News _ _ _ _ => N16
        rename Fr _ _ _ _ => F16
        refine callOn F16 N16 [(dx, dictOf _ 4), (la, listOf #[.int ((p + nl + 2 * (i + 1) + 1 : Nat) : Int) t14] c)] [(it, ciObj q' _), (q', mtObj 69 x), (pb, listOf #[] cb)] (List.forall_mem_cons.mpr ⟨.head _, List.forall_mem_cons.mpr ⟨.tail _ (.head _), List.forall_mem_nil _⟩⟩) (fun q hq => .tail _ (.tail _ hq)) ?_ (fun g' st' sz' O' hg' hk' => ?_)
        · intro q hq r hr
          rcases List.mem_cons.mp hr with rfl | hr
          · exact (hdj _ q hq).1
          · rw [List.mem_singleton.mp hr]; exact (hdj _ q hq).2
        refine readChar (hl.keeps st' sz') hes15 (by have := lt1 _ _ h3; omega) hda O' ((G'.keeps st').le (by omega)) ?_
        intro h17 tk17 es17 t17 t17' hes17 O17
        refine ⟨_, h17, tk17, _, rfl, rfl, O17, fun F17 N17 => ?_⟩
        clear F16 N16 O17 O' hg' hk' st' sz'
        dsimp only [List.cons_append, List.nil_append] at N17
        obtain ⟨c1, hc1, e1, e2, e3⟩ := rd (i + 1) (by omega)
        rw [e2] at N17
        rw [e3] at hes17
        rw [e1]
        k_with "stop" => (with_reducible show wpAny _ _ (inplaceOp _ _ _) _ _ _)
        k_steps
        refine iadd_str ?_ ?_
        · intro t18 tk18
          rw [appTake hc1]
          k_with "stop" => (with_reducible show Exists _)
          k_steps
          rename News _ _ _ _ => N19
          rename Fr _ _ _ _ => F19
          exact ⟨_, _, _, _, _, rfl, hes17, F19, N19, rfl, rfl, _, rfl⟩
        · show (List.take (i + 1) wo).toArray.size + 1 ≤ sizeLine
          rw [sizeLine_eq, List.size_toArray, List.length_take]; omega
      case last =>
        rintro mp h14 tk14 es14 t14 tc14 cp hcp ⟨j1, j2, tt, j3⟩ hes14 F14 N14
        clear F13 N13
        rw [show p + nl + 2 * (wo.length - 1 + 1) = p + nl + 2 * wo.length by omega] at hcp hes14 N14
        rw [show wo.length - 1 + 1 = wo.length by omega, List.take_length] at j3
        obtain rfl : cp = 10 := Option.some.inj (hcp.symm.trans h3)
        rw [show isNl tx (p + nl + 2 * wo.length) = 1 from if_pos h3] at hes14
        have hes15 := hes14
        obtain ⟨v1, v2, v3, v4, v5, v6, rfl⟩ := hes14
        have F15 := Fr.as F14 [(Str.ofString "self", .ref x), (Str.ofString "fiter", .ref it), (Str.ofString "token", .str ⟨wo.toArray⟩ tt)] (List.forall_mem_cons.mpr ⟨j1, List.forall_mem_cons.mpr ⟨j2, List.forall_mem_cons.mpr ⟨j3, List.forall_mem_nil _⟩⟩⟩)
        clear F14
        rw [show (⟨#[10]⟩ : Str) = Str.ofString "\n" by decide +kernel]
        k_with "stop" => (with_reducible show wpAny _ _ (compareOp CmpOp.In _ _) _ _ _)
        k_steps
        refine in_str ?_
        rw [ws10]
        k_with_none
        k_steps
        rename News _ _ _ _ => N19
        rename Fr _ _ _ _ => F19
        refine' hret _ _ _ _ _ hes15 (onOf F19 (newsSub N19 ?mm))
        case mm => exact List.forall_mem_cons.mpr ⟨by k_mem, List.forall_mem_cons.mpr ⟨by k_mem, List.forall_mem_cons.mpr ⟨by k_mem, List.forall_mem_nil _⟩⟩⟩
end
section
theorem rsGn : True := by w_top off; k_with_none; trivial
open PySem PySem.W PyProof.Rows PySem.Calls PyProof.Rows.LSm
theorem m_dj1 {rest : List (Addr × Obj)} {a : Addr × Obj} (h1 : ∀ p ∈ rest, p.1 ≠ a.1) : ∀ p ∈ rest, ∀ q ∈ [a], p.1 ≠ q.1 := by
  intro p hp q hq
  rw [List.mem_singleton.mp hq]; exact h1 p hp
theorem getNext {w : World} {mean : ExcName → Option Value} {mg mb : Str → Option Value} {A : Around} {g : Heap} {L : Addr} {m : Str → Option Value} {s : Shared} {rest : List (Addr × Obj)} {Q E : Value → Shared → Prop}
  {x dx sr la pb : Addr} {tx : Str} {ln c cb : Nat} {t : Tok} {es : List DictEntry} {qv : List (Str × Tok)}
  (hlx : LexAt w g x dx sr la tx) (hes : LxEs w.params ln sr pb es) (hda : dx ≠ la) (hdb : dx ≠ pb) (hab : la ≠ pb) (hql : qv.length ≤ 4000) (G : Gr w mean mg mb A 10 g)
  (F : Fr g L s.heap m) (N : News g L s.heap ((pb, listOf (strValues qv).toArray cb) :: (dx, dictOf es 4) :: (la, listOf #[.int tx.cps.size t] c) :: rest))
  (hr : ∀ p ∈ rest, p.1 ≠ pb ∧ p.1 ≠ dx ∧ p.1 ≠ la)
  (h : ∀ h' tk es' t' wd0 tw qv' cb', LxEs w.params ln sr pb es' → (qv = [] ∧ wd0 = st [] ∧ qv' = [] ∨ qv = (wd0, tw) :: qv') → Fr g L h' m → News g L h' ((pb, listOf (strValues qv').toArray cb') :: (dx, dictOf es' 4) :: (la, listOf #[.int tx.cps.size t'] c) :: rest) → Q (.str wd0 tw) { s with heap := h', toks := tk }) :
  wpAny (model VW w) A (call (.ref 76) [.ref x]) Q E s := by
  cases qv with
  | nil =>
    refine callOn F N [(dx, dictOf es 4), (la, listOf #[.int tx.cps.size t] c), (pb, listOf #[] cb)] rest ?_ (fun p hp => .tail _ (.tail _ (.tail _ hp))) ?_ (fun g' st' sz' O' hg' hk' => ?_)
    · exact List.forall_mem_cons.mpr ⟨.tail _ (.head _), List.forall_mem_cons.mpr ⟨.tail _ (.tail _ (.head _)), List.forall_mem_cons.mpr ⟨.head _, List.forall_mem_nil _⟩⟩⟩
    · intro p hp
      obtain ⟨a1, a2, a3⟩ := hr p hp
      exact List.forall_mem_cons.mpr ⟨a2, List.forall_mem_cons.mpr ⟨a3, List.forall_mem_cons.mpr ⟨a1, List.forall_mem_nil _⟩⟩⟩
    · refine getTok (wo := []) (hlx.keeps st' sz') hes hda hdb hab (.inl rfl) (Nat.le_refl _) (Nat.zero_le _) (LexTo.eof (by simp)) O' (G.keeps st') ?_
      intro h' tk' es' t' t'' hes' O2
      refine ⟨_, h', tk', _, rfl, rfl, O2, fun F' N' => ?_⟩
      refine h h' tk' es' t' (st []) t'' [] cb hes' (.inl ⟨rfl, rfl, rfl⟩) F' (newsSub N' ?_)
      intro p hp
      rcases List.mem_cons.mp hp with rfl | hp
      · exact .tail _ (.tail _ (.head _))
      rcases List.mem_cons.mp hp with rfl | hp
      · exact .head _
      rcases List.mem_cons.mp hp with rfl | hp
      · exact .tail _ (.head _)
      exact .tail _ (.tail _ (.tail _ hp))
  | cons a qr =>
    obtain ⟨wd0, tw⟩ := a
    refine callOn F N [(pb, listOf (.str wd0 tw :: strValues qr).toArray cb)] ((dx, dictOf es 4) :: (la, listOf #[.int tx.cps.size t] c) :: rest) ?_ (fun p hp => .tail _ hp) ?_ (fun g' st' sz' O' hg' hk' => ?_)
    · exact List.forall_mem_cons.mpr ⟨.head _, List.forall_mem_nil _⟩
    · exact m_dj1 (List.forall_mem_cons.mpr ⟨hdb, List.forall_mem_cons.mpr ⟨hab, fun p hp => (hr p hp).1⟩⟩)
    · refine getPop (st' _ _ hlx.1) (hg' _ (.head _)) hes (by simp [strValues] at hql ⊢; omega) O' ((G.keeps st').le (by omega)) ?_
      intro h' tk' c' O2
      refine ⟨_, h', tk', _, rfl, rfl, O2, fun F' N' => ?_⟩
      exact h h' tk' es t wd0 tw qr c' hes (.inr rfl) F' N'
theorem pushNext {w : World} {mean : ExcName → Option Value} {mg mb : Str → Option Value} {A : Around} {g : Heap} {L : Addr} {m : Str → Option Value} {s : Shared} {rest : List (Addr × Obj)} {Q E : Value → Shared → Prop}
  {x dx sr la pb : Addr} {tx : Str} {ln cb : Nat} {es : List DictEntry} {qv : List (Str × Tok)} {xw : Str} {tw : Tok}
  (hlx : LexAt w g x dx sr la tx) (hes : LxEs w.params ln sr pb es) (hdb : dx ≠ pb) (hql : qv.length ≤ 4000) (G : Gr w mean mg mb A 10 g)
  (F : Fr g L s.heap m) (N : News g L s.heap ((pb, listOf (strValues qv).toArray cb) :: (dx, dictOf es 4) :: rest))
  (hr : ∀ p ∈ rest, p.1 ≠ pb)
  (h : ∀ h' tk cb', Fr g L h' m → News g L h' ((pb, listOf (strValues (qv ++ [(xw, tw)])).toArray cb') :: (dx, dictOf es 4) :: rest) → Q .none { s with heap := h', toks := tk }) :
  wpAny (model VW w) A (call (.ref 83) [.ref x, .str xw tw]) Q E s := by
  refine callOn F N [(pb, listOf (strValues qv).toArray cb)] ((dx, dictOf es 4) :: rest) ?_ (fun p hp => .tail _ hp) ?_ (fun g' st' sz' O' hg' hk' => ?_)
  · exact List.forall_mem_cons.mpr ⟨.head _, List.forall_mem_nil _⟩
  · exact m_dj1 (List.forall_mem_cons.mpr ⟨hdb, hr⟩)
  · refine pushTok (v := .str xw tw) (st' _ _ hlx.1) (hg' _ (.head _)) hes (by simp [strValues] at hql ⊢; omega) O' ((G.keeps st').le (by omega)) ?_
    intro h' tk' c' O2
    refine ⟨_, h', tk', _, rfl, rfl, O2, fun F' N' => ?_⟩
    rw [strV_snoc] at N'
    exact h h' tk' c' F' N'
theorem setOn {w : World} {A : Around} {E : Value → Shared → Prop} {s : Shared} {h₀ : Heap} {L D : Addr} {m : Str → Option Value} {news news' : List (Addr × Obj)} {vs : List Value} {n r : Nat} {x : Value} {t : Tok} {Q : Unit → Shared → Prop}
    (F : Fr h₀ L s.heap m) (N : News h₀ L s.heap news) (U : Upd D (listOf vs.toArray n) (listOf (vs.set r x).toArray n) news news') (hr : r < vs.length) (hz : vs.length ≤ 100000)
    (h : ∀ h', Fr h₀ L h' m → News h₀ L h' news' → Q () { s with heap := h' }) :
    wpAny (model VW w) A (setItem (.ref D) (.int (r : Int) t) x) Q E s := by
  obtain ⟨pre, post, rfl, rfl, a, b⟩ := U.split
  have z := N (D, listOf vs.toArray n) (List.mem_append.mpr (.inr (.head _)))
  refine ki_setAt z.1 (by omega) (by omega) (by rw [List.size_toArray]; omega) (h _ (F.change (Heap.SameBut.update ..) z.2.1 z.2.2) (ki_turn _ N a b ?_ ?_))
  · show vs.toArray.setIfInBounds (r : Int).toNat x = (vs.set r x).toArray
    rw [Int.toNat_natCast]
    apply Array.toList_inj.mp
    simp
  · simp
theorem markGet {w : World} {A : Around} {E : Value → Shared → Prop} {s : Shared} {g : Heap} {L md : Addr} {m : Str → Option Value} {kvs : List (Str × Value)} {x : Str} {t : Tok} {v : Value} {Q : Value → Shared → Prop} {value slice : Expr}
    (F : Fr g L s.heap m) (hm : g.DictOf (strKind VW w) md kvs) (hv : valueAt kvs x = some v) (h : ∀ tk, Q v { s with toks := tk })
    (hs : subscripted slice false (.ref md) (.str x t) = operate [.ref md, .str x t] (getItem (.ref md) (.str x t)) := by with_unfolding_all rfl) :
    wpAny (model VW w) A (subscriptTail value slice (.ref md) (.str x t)) Q E s := by
  have hd := hm.keep F.keep
  exact tail_any hd.typeIs slot_dict_getitem.lookup (wpAny_getItem_of (strKind_is _ _ _ _) hd.mapOf hv (h _)) hs
theorem wl_last (k y : Nat) : (wl k y)[(if (-1 : Int) < 0 then (-1 : Int) + (wl k y).length else -1).toNat]? = some (97 + k) := by
  rw [if_pos (by decide)]
  have e : ((-1 : Int) + ((wl k y).length : Nat)).toNat = (List.replicate (y % 3) 9 ++ List.replicate (y / 3 % 4) 32).length := by
    unfold wl; rw [List.length_append, List.length_singleton]; omega
  rw [e]
  unfold wl
  rw [List.getElem?_append_right (Nat.le_refl _), Nat.sub_self]; rfl
theorem wl_pos (k y : Nat) : 1 ≤ (wl k y).length := by unfold wl; simp; omega
end
section
theorem rsCompD : True := by w_top off; k_with_none; trivial
open PySem PySem.W PyProof.Rows PySem.Calls
section
variable {w : World} {A : Around} {g : Heap} {L I C D : Nat} {oL : Obj} {fp : List Addr} {n : Nat} {P : Nat → Value → Prop} {St : Nat → Heap → Prop} {m mc : Str → Option Value} {news nw frz : List (Addr × Obj)} {env cenv : Env} {x : Str} {px pos : Pos}
  {s : Shared} {iter kx vx : Expr} {scope : Scope} {R : Result → Shared → Prop} {Q : Value → Shared → Prop} {cl : List (Str × Addr)}

theorem compCoreD (W : Walks VW w A I fp [I] n P St) (hn : n ≤ sizeLine) (hI : g.get? I = none) (hDI : D ≠ I) (hCI : C ≠ I) (hLI : L ≠ I) (hDL : D ≠ L)
    (J : Nat → List (Str × Value) → (Str → Option Value) → List (Addr × Obj) → Prop)
    (hfp : ∀ b ∈ fp, b ≠ I → (∃ o, g.get? b = some o) ∨ ∃ o, (b, o) ∈ frz)
    (hfz : ∀ i ys m₁ news₁, J i ys m₁ news₁ → ∀ q ∈ frz, q ∈ news₁)
    (live : ∀ i h, St i h → ∃ o, h.get? I = some o)
    (F : Fr g C s.heap mc) {oD0 : Obj} (hD0 : oD0.IsDictOf (strKind VW w) []) (N : News g C s.heap ((D, oD0) :: (L, oL) :: nw)) (hap : ∀ p ∈ nw, p.1 ≠ I ∧ p.1 ≠ D ∧ p.1 ≠ L) (hst : St 0 s.heap) (hJ : J 0 [] mc nw)
    (turn : ∀ i v kvs oD mc₁ nw₁ oI h tk, i < n → P i v → oD.IsDictOf (strKind VW w) kvs → J i kvs mc₁ nw₁ → (∀ p ∈ nw₁, p.1 ≠ I ∧ p.1 ≠ D ∧ p.1 ≠ L) → Fr g C h mc₁ → News g C h ((D, oD) :: (I, oI) :: (L, oL) :: nw₁) →
      wpAny (model VW w) A (storeName cenv x v) (fun _ s₂ => wpAny (model VW w) A (eval kx cenv) (fun kv s₃ => wpAny (model VW w) A (eval vx cenv) (fun vv s₄ =>
        ∃ k t, kv = .str k t ∧ CompStep g C D I L oD oI oL (J (i + 1) (stored kvs k vv)) s s₄) (fun _ _ => False) s₃) (fun _ _ => False) s₂) (fun _ _ => False) { s with heap := h, toks := tk })
    (done : ∀ kvs oD mc₁ nw₁ h tk, oD.IsDictOf (strKind VW w) kvs → J n kvs mc₁ nw₁ → (∀ p ∈ nw₁, p.1 ≠ I ∧ p.1 ≠ D ∧ p.1 ≠ L) → Fr g C h mc₁ → News g C h ((D, oD) :: (L, oL) :: nw₁) → R (.ok .next) { s with heap := h, toks := tk }) :
    codeAny (model VW w) A (.compLoop (.DictComp kx vx [⟨.Name x px, iter, [], 0⟩] scope pos) 0 (.ref I) (.ref D) cenv) R s := by
  refine codeAny_compLoop_testsD
    (fun k s' => Ex7 fun h' tk mc' nw' kvs oD i => C9 (s' = { s with heap := h', toks := tk }) (St i h') (Fr g C h' mc') (News g C h' ((D, oD) :: (L, oL) :: nw')) ((∀ p ∈ nw', p.1 ≠ I ∧ p.1 ≠ D ∧ p.1 ≠ L)) ((oD.IsDictOf (strKind VW w) kvs ∧ J i kvs mc' nw')) (kvs.length ≤ i) (i ≤ n) (k = n + 1 - i)) ?_ (n + 1)
    ⟨s.heap, s.toks, mc, nw, [], oD0, 0, rfl, hst, F, N, hap, ⟨hD0, hJ⟩, Nat.le_refl _, Nat.zero_le _, rfl⟩
  rintro k s' ⟨h', tk, mc', nw', kvs, oD, i, rfl, hst', F', N', hap', ⟨hoD, hJ'⟩, hys, hi, rfl⟩
  have nxt : ∀ h₁ : Heap, (∀ b o, b ∉ [I] → h'.get? b = some o → h₁.get? b = some o) → Fr g C h₁ mc' ∧ News g C h₁ ((D, oD) :: (L, oL) :: nw') := fun h₁ hk₁ =>
    ⟨⟨F'.ns.at' fun o e => hk₁ _ o (fun q => hCI (List.mem_singleton.mp q)) e, fun b o e => hk₁ b o (fun q => by rw [List.mem_singleton.mp q, hI] at e; cases e) (F'.keep b o e), F'.above⟩,
      fun p hp => ⟨hk₁ _ _ (fun q => by
        have q := List.mem_singleton.mp q
        rcases List.mem_cons.mp hp with rfl | hp
        · exact hDI q
        · rcases List.mem_cons.mp hp with rfl | hp
          · exact hLI q
          · exact (hap' p hp).1 q) (N' p hp).1, (N' p hp).2⟩⟩
  by_cases hlt : i < n
  · refine W.item i _ _ _ hlt hst' fun v h₁ tk₁ hP hst₁ hk₁ => ?_
    obtain ⟨F₁, N₁⟩ := nxt h₁ hk₁
    obtain ⟨oI, hoI⟩ := live _ _ hst₁
    have N₂ : News g C h₁ ((D, oD) :: (I, oI) :: (L, oL) :: nw') := fun p hp => by
      rcases List.mem_cons.mp hp with rfl | hp
      · exact N₁ _ (.head _)
      · rcases List.mem_cons.mp hp with rfl | hp
        · exact ⟨hoI, Ne.symm hCI, hI⟩
        · exact N₁ p (.tail _ hp)
    -- the state behind a turn gives the invariant
    have fin : ∀ (h₄ : Heap) (tk₄ : Nat) (mc₄ : Str → Option Value) (nw₄ : List (Addr × Obj)) (zs : List (Str × Value)) (c₄ : Obj), c₄.IsDictOf (strKind VW w) zs → zs.length ≤ i + 1 → Fr g C h₄ mc₄ → News g C h₄ ((D, c₄) :: (I, oI) :: (L, oL) :: nw₄) → (∀ p ∈ nw₄, p.1 ≠ I ∧ p.1 ≠ D ∧ p.1 ≠ L) → J (i + 1) zs mc₄ nw₄ →
        ∃ k, k < n + 1 - i ∧ Ex7 fun h' tk mc' nw' kvs oD i => C9 (({ s with heap := h₄, toks := tk₄ } : Shared) = { s with heap := h', toks := tk }) (St i h') (Fr g C h' mc') (News g C h' ((D, oD) :: (L, oL) :: nw')) ((∀ p ∈ nw', p.1 ≠ I ∧ p.1 ≠ D ∧ p.1 ≠ L)) ((oD.IsDictOf (strKind VW w) kvs ∧ J i kvs mc' nw')) (kvs.length ≤ i) (i ≤ n) (k = n + 1 - i):= by
      intro h₄ tk₄ mc₄ nw₄ zs c₄ hc₄ hz F₄ N₄ ap₄ hJ₄
      refine ⟨n + 1 - (i + 1), by omega, h₄, tk₄, mc₄, nw₄, zs, c₄, i + 1, rfl, ?_, F₄, fun p hp => ?_, ap₄, ⟨hc₄, hJ₄⟩, hz, hlt, rfl⟩
      · refine W.frame _ _ _ hst₁ fun b hb o e => ?_
        by_cases hbI : b = I
        · subst hbI
          rw [hoI] at e; cases e
          exact (N₄ _ (.tail _ (.head _))).1
        · rcases hfp b hb hbI with ⟨o', hg⟩ | ⟨o', hz'⟩
          · have : o' = o := Option.some.inj ((F₁.keep b o' hg).symm.trans e)
            exact this ▸ F₄.keep b o' hg
          · have e1 := (N₁ _ (.tail _ (.tail _ (hfz _ _ _ _ hJ' _ hz')))).1
            have : o' = o := Option.some.inj (e1.symm.trans e)
            exact this ▸ (N₄ _ (.tail _ (.tail _ (.tail _ (hfz _ _ _ _ hJ₄ _ hz'))))).1
      · rcases List.mem_cons.mp hp with rfl | hp
        · exact N₄ _ (.head _)
        · exact N₄ p (.tail _ (.tail _ hp))
    refine wpAny_assign_Name (wpAny_mono (turn i v kvs oD mc' nw' oI h₁ _ hlt hP hoD hJ' hap' F₁ N₂) (fun _ s₂ h₂ => ?_) fun _ _ e => e.elim)
    rw [List.forIn_nil]
    refine wpAny_pure ?_
    rw [if_pos rfl]
    refine wpAny_mono h₂ (fun kv s₃ h₃ => wpAny_mono h₃ (fun vv s₄ h₄ => ?_) fun _ _ e => e.elim) fun _ _ e => e.elim
    obtain ⟨k, t, rfl, h₄, tk₄, mc₄, nw₄, rfl, F₄, N₄, ap₄, hJ₄⟩ := h₄
    have hg₅ := (N₄ _ (.head _)).2
    refine wpAny_dictSet_pairs (hsz := by omega) (strKind_is _ _ _ _) (Heap.dictOf_iff.mpr ⟨oD, (N₄ _ (.head _)).1, hoD⟩) fun h₅ hl₅ hs₅ => ?_
    obtain ⟨o₅, ho₅, hd₅⟩ := Heap.dictOf_iff.mp hl₅
    refine fin h₅ _ mc₄ nw₄ (stored kvs k vv) o₅ hd₅ (Nat.le_trans (stored_length_le _ _ _) (by omega)) ⟨F₄.ns.at' fun o e => (hs₅.2 _ (Ne.symm hg₅.1)).trans e, fun b o e => (hs₅.2 b fun q => by rw [q] at e; rw [hg₅.2] at e; cases e).trans (F₄.keep b o e), F₄.above⟩ (fun p hp => ?_) ap₄ hJ₄
    rcases List.mem_cons.mp hp with rfl | hp
    · exact ⟨ho₅, hg₅⟩
    · have ne : p.1 ≠ D := by
        rcases List.mem_cons.mp hp with rfl | hp
        · exact Ne.symm hDI
        · rcases List.mem_cons.mp hp with rfl | hp
          · exact Ne.symm hDL
          · exact (ap₄ p hp).2.1
      exact ⟨(hs₅.2 _ ne).trans (N₄ p (.tail _ hp)).1, (N₄ p (.tail _ hp)).2⟩
  · have hin : i = n := by omega
    subst hin
    refine W.done _ _ _ hst' fun h₁ tk₁ hk₁ => ?_
    obtain ⟨F₁, N₁⟩ := nxt h₁ hk₁
    exact done kvs oD mc' nw' h₁ tk₁ hoD hJ' hap' F₁ N₁

/-- what a turn of a dict comprehension must do -/
def CompTurnD (w : World) (A : Around) (g : Heap) (L I C D : Nat) (oI oL : Obj) (cenv : Env) (x : Str) (kx vx : Expr) (J : Nat → List (Str × Value) → (Str → Option Value) → List (Addr × Obj) → Prop) (i : Nat) (v : Value) (kvs : List (Str × Value)) (oD : Obj) (s s₁ : Shared) : Prop :=
  wpAny (model VW w) A (storeName cenv x v) (fun _ s₂ => wpAny (model VW w) A (eval kx cenv) (fun kv s₃ => wpAny (model VW w) A (eval vx cenv) (fun vv s₄ =>
        ∃ k t, kv = .str k t ∧ CompStep g C D I L oD oI oL (J (i + 1) (stored kvs k vv)) s s₄) (fun _ _ => False) s₃) (fun _ _ => False) s₂) (fun _ _ => False) s₁
def CompRestD (w : World) (A : Around) (env : Env) (scope : Scope) (cl : List (Str × Addr)) (e : Expr) (Q : Value → Shared → Prop) (it : Value) (s₂ : Shared) : Prop :=
  wpAny (model VW w) A newDict (fun acc s₃ =>
      wpAny (model VW w) A (newFunctionEnv scope env.globals cl [] env.qual none .none (some env)) (fun cenv s₄ =>
        codeAny (model VW w) A (.compStart e 0 it acc { cenv with scope := relabel scope env }) (compPost (model VW w) A (fun _ _ => False) none Q acc cenv.locals) s₄) (fun _ _ => False) s₃) (fun _ _ => False) s₂
theorem dictComp_ (hclos : closureFor scope env = pure cl) (hkind : scope.kind = .function) (hnames : ∀ y ∈ scope.names, y.2 = .local → scope.names.lookup y.1 = some .local)
    (h : wpAny (model VW w) A (eval iter env) (fun xv s₁ => wpAny (model VW w) A (pyIter xv) (CompRestD w A env scope cl (.DictComp kx vx [⟨.Name x px, iter, [], 0⟩] scope pos) Q) (fun _ _ => False) s₁) (fun _ _ => False) s)
    (hs : ∀ x, foldedSetIterable iter env x = pure x := by intro _; rfl) :
    wpAny (model VW w) A (eval (.DictComp kx vx [⟨.Name x px, iter, [], 0⟩] scope pos) env) Q (fun _ _ => False) s := by
  rw [arm_eval_DictComp]
  exact wpAny_comprehension_free (use := none) rfl hs hclos hkind hnames h
theorem dictCompW (W : Walks VW w A I fp [I] n P St) (hn : n ≤ sizeLine) (hI : g.get? I = none) (hIL : I ≠ L) (hIs : I < s.heap.objs.size)
    (J : Addr → Nat → List (Str × Value) → (Str → Option Value) → List (Addr × Obj) → Prop)
    (hfp : ∀ b ∈ fp, b ≠ I → (∃ o, g.get? b = some o) ∨ ∃ o, (b, o) ∈ frz)
    (hfz : ∀ C i ys m₁ news₁, J C i ys m₁ news₁ → ∀ q ∈ frz, q ∈ news₁)
    (live : ∀ i h, St i h → ∃ o, h.get? I = some o)
    (F : Fr g L s.heap m) (N : News g L s.heap news) (hnI : ∀ p ∈ news, p.1 ≠ I) (hst : St 0 s.heap)
    (hJ : J (s.heap.objs.size + 1) 0 [] (fun _ => none) (cellNews (s.heap.objs.size + 1 + 1) scope.names ++ news))
    (turn : ∀ C D oL oI i v kvs oD mc₁ nw₁ h tk, D + 1 = C → L < D → I < D → i < n → P i v → oD.IsDictOf (strKind VW w) kvs → J C i kvs mc₁ nw₁ → (∀ p ∈ nw₁, p.1 ≠ I ∧ p.1 ≠ D ∧ p.1 ≠ L) → Fr g C h mc₁ → News g C h ((D, oD) :: (I, oI) :: (L, oL) :: nw₁) →
      CompTurnD w A g L I C D oI oL (compEnvC scope (cellsFrom (C + 1) scope.names cl) C env) x kx vx (J C) i v kvs oD s { s with heap := h, toks := tk })
    (done : ∀ C D kvs oD mc₁ nw₁ h tk, D + 1 = C → L < D → (∀ p ∈ news, p.1 < D) → oD.IsDictOf (strKind VW w) kvs → J C n kvs mc₁ nw₁ → (∀ p ∈ nw₁, p.1 ≠ D) → Fr g L h m → News g L h ((D, oD) :: nw₁) → Q (.ref D) { s with heap := h, toks := tk }) :
    CompRestD w A env scope cl (.DictComp kx vx [⟨.Name x px, iter, [], 0⟩] scope pos) Q (.ref I) s := by
  unfold CompRestD
  refine wpAny_newObj_type ?_
  refine newEnvComp ?_
  obtain ⟨oL, esL, epL, hoL, rL⟩ := F.ns
  have hLs : L < s.heap.objs.size := Heap.lt_size hoL
  have gnone : ∀ a, s.heap.objs.size ≤ a → g.get? a = none := fun a ha => by
    cases e : g.get? a with
    | none => rfl
    | some o => exact absurd (Heap.lt_size (F.keep _ _ e)) (Nat.not_lt.mpr ha)
  have hsz : (s.heap.push { cls := .type "dict", dict := none, data := .dict #[] }).objs.size = s.heap.objs.size + 1 := Heap.size_push ..
  dsimp only
  rw [hsz]
  have hC : newEnv scope (s.heap.objs.size + 1) env.globals (cellsFrom (s.heap.objs.size + 1 + 1) scope.names cl) env.qual none .none (some env) builtinsNs =
      { scope := scope, locals := s.heap.objs.size + 1, globals := env.globals, cells := cellsFrom (s.heap.objs.size + 1 + 1) scope.names cl, qual := env.qual, func := none, code := env.code, frame := env.frame, builtins := env.builtins } := rfl
  rw [hC]
  generalize hH : pushCells ((s.heap.push { cls := .type "dict", dict := none, data := .dict #[] }).push { cls := .type "dict", data := .dict #[] }) scope.names = H
  obtain ⟨oD0, hoD0, hD0⟩ := Heap.dictOf_iff.mp (show (s.heap.push { cls := .type "dict", dict := none, data := .dict #[] }).DictOf (strKind VW w) s.heap.objs.size [] from Heap.DictOf.new s.heap)
  have keepH : ∀ b o, s.heap.get? b = some o → H.get? b = some o := fun b o e => hH ▸ pushCells_keeps _ _ _ _ (Heap.get?_push_of_some _ (Heap.get?_push_of_some _ e))
  have hD : H.get? s.heap.objs.size = some (oD0) := hH ▸ pushCells_keeps _ _ _ _ (Heap.get?_push_of_some _ hoD0)
  have hCn : H.Ns (s.heap.objs.size + 1) (fun _ => none) := by
    have := Heap.Ns.new (s.heap.push { cls := .type "dict", dict := none, data := .dict #[] }) (.type "dict")
    rw [hsz] at this
    exact hH ▸ this.keeps (pushCells_keeps _ _)
  have FC : Fr g (s.heap.objs.size + 1) H (fun _ => none) := ⟨hCn, fun b o e => keepH b o (F.keep b o e), Nat.le_trans (Nat.le_of_lt (Nat.lt_of_le_of_lt F.above hLs)) (Nat.le_succ _)⟩
  have NC : News g (s.heap.objs.size + 1) H ((s.heap.objs.size, oD0) :: (L, oL) :: (cellNews (s.heap.objs.size + 1 + 1) scope.names ++ news)) := fun p hp => by
    rcases List.mem_cons.mp hp with rfl | hp
    · exact ⟨hD, Nat.ne_of_lt (Nat.lt_succ_self _), gnone _ (Nat.le_refl _)⟩
    · rcases List.mem_cons.mp hp with rfl | hp
      · refine ⟨keepH _ _ hoL, Nat.ne_of_lt (Nat.lt_succ_of_lt hLs), ?_⟩
        cases e : g.get? L with
        | none => rfl
        | some o => exact absurd (Heap.lt_size e) (Nat.not_lt.mpr F.above)
      · rcases List.mem_append.mp hp with hp | hp
        · have ge := ltN (Nat.lt_of_succ_le (cellNews_ge _ _ p hp))
          refine ⟨?_, Nat.ne_of_gt ge, gnone _ (Nat.le_of_lt (Nat.lt_trans (Nat.lt_succ_self _) ge))⟩
          have := cellNews_get scope.names ((s.heap.push { cls := .type "dict", dict := none, data := .dict #[] }).push { cls := .type "dict", data := .dict #[] }) p (by rw [Heap.size_push, hsz]; exact hp)
          exact hH ▸ this
        · exact ⟨keepH _ _ (N p hp).1, Nat.ne_of_lt (Nat.lt_succ_of_lt (Heap.lt_size (N p hp).1)), (N p hp).2.2⟩
  have apC : ∀ p ∈ cellNews (s.heap.objs.size + 1 + 1) scope.names ++ news, p.1 ≠ I ∧ p.1 ≠ s.heap.objs.size ∧ p.1 ≠ L := fun p hp => by
    rcases List.mem_append.mp hp with hp | hp
    · have ge := ltN (Nat.lt_of_succ_le (cellNews_ge _ _ p hp))
      exact ⟨neN (by omega), neN (by omega), neN (by omega)⟩
    · have := ltN (Heap.lt_size (N p hp).1)
      exact ⟨hnI p hp, neN (by omega), (N p hp).2.1⟩
  have loop : ∀ s₃ : Shared, s₃ = { s with heap := H } → codeAny (model VW w) A (.compLoop (.DictComp kx vx [⟨.Name x px, iter, [], 0⟩] scope pos) 0 (.ref I) (.ref s.heap.objs.size) (compEnvC scope (cellsFrom (s.heap.objs.size + 1 + 1) scope.names cl) (s.heap.objs.size + 1) env))
      (compPost (model VW w) A (fun _ _ => False) none Q (.ref s.heap.objs.size) (s.heap.objs.size + 1)) s₃ := by
    rintro s₃ rfl
    refine compCoreD (frz := frz) (C := s.heap.objs.size + 1) W hn hI (neN (by omega)) (neN (by omega)) (Ne.symm hIL) (neN (by omega)) (J (s.heap.objs.size + 1)) hfp (hfz _) live FC hD0 NC apC
      (W.frame _ _ _ hst fun b _ o e => keepH b o e) hJ (fun i v kvs oD mc₁ nw₁ oI h tk hi hP hoD hJ₁ ap₁ F₁ N₁ => ?_) (fun kvs oD mc₁ nw₁ h tk hoD hJ₁ ap₁ F₁ N₁ => ?_)
    · exact turn _ _ oL oI i v kvs oD mc₁ nw₁ h tk rfl hLs hIs hi hP hoD hJ₁ ap₁ F₁ N₁
    · refine ⟨mc₁, F₁.ns, fun h'' hs'' => ?_⟩
      refine done _ _ kvs oD mc₁ nw₁ h'' tk rfl hLs (fun p hp => Heap.lt_size (N p hp).1) hoD hJ₁ (fun p hp => (ap₁ p hp).2.1) ⟨⟨oL, esL, epL, ?_, rL⟩, fun b o e => ?_, F.above⟩ (fun p hp => ?_)
      · exact (hs''.2 L (neN (by omega))).trans (N₁ _ (.tail _ (.head _))).1
      · refine (hs''.2 b fun q => ?_).trans (F₁.keep b o e)
        have := ltN (Heap.lt_size (F.keep b o e))
        exact absurd q (neN (Nat.ne_of_lt (Nat.lt_succ_of_lt this)))
      · rcases List.mem_cons.mp hp with rfl | hp
        · exact ⟨(hs''.2 _ (neN (by omega))).trans (N₁ _ (.head _)).1, (neN (by omega)), (N₁ _ (.head _)).2.2⟩
        · have q := N₁ p (.tail _ (.tail _ hp))
          exact ⟨(hs''.2 _ q.2.1).trans q.1, (ap₁ p hp).2.2, q.2.2⟩
  exact codeAny_compStart_dict (loop _ rfl) (W.self 0 _ _ _ (W.frame _ _ _ hst fun b _ o e => keepH b o e) (loop _ rfl))

theorem compListD {l : Addr} {items : Array Value} (hl : s.heap.IsList l items) (hlg : (∃ o, g.get? l = some o) ∨ ∃ o, (l, o) ∈ frz) (hh : A.handled = none) (hn : items.size ≤ sizeLine)
    (J : Addr → Nat → List (Str × Value) → (Str → Option Value) → List (Addr × Obj) → Prop)
    (hfz : ∀ C i ys m₁ news₁, J C i ys m₁ news₁ → ∀ q ∈ frz, q ∈ news₁)
    (F : Fr g L s.heap m) (N : News g L s.heap news)
    (hJ : ∀ C, (∀ p ∈ news, p.1 < C) → J C 0 [] (fun _ => none) (cellNews (C + 1) scope.names ++ news))
    (turn : ∀ I C D oL oI i v kvs oD mc₁ nw₁ h tk, D + 1 = C → L < D → I < D → i < items.size → items[i]? = some v → oD.IsDictOf (strKind VW w) kvs → J C i kvs mc₁ nw₁ → (∀ p ∈ nw₁, p.1 ≠ I ∧ p.1 ≠ D ∧ p.1 ≠ L) → Fr g C h mc₁ → News g C h ((D, oD) :: (I, oI) :: (L, oL) :: nw₁) →
      CompTurnD w A g L I C D oI oL (compEnvC scope (cellsFrom (C + 1) scope.names cl) C env) x kx vx (J C) i v kvs oD s { s with heap := h, toks := tk })
    (done : ∀ C D kvs oD mc₁ nw₁ h tk, D + 1 = C → L < D → (∀ p ∈ news, p.1 < D) → oD.IsDictOf (strKind VW w) kvs → J C items.size kvs mc₁ nw₁ → (∀ p ∈ nw₁, p.1 ≠ D) → Fr g L h m → News g L h ((D, oD) :: nw₁) → Q (.ref D) { s with heap := h, toks := tk }) :
    wpAny (model VW w) A (pyIter (.ref l)) (CompRestD w A env scope cl (.DictComp kx vx [⟨.Name x px, iter, [], 0⟩] scope pos) Q) (fun _ _ => False) s := by
  refine wpAny_pyIter_list hl ?_
  obtain ⟨ol, hol, _⟩ := id hl
  have hne : l ≠ s.heap.objs.size := Nat.ne_of_lt (Heap.lt_size hol)
  have hIL : s.heap.objs.size ≠ L := Nat.ne_of_gt F.ns.lt
  refine dictCompW (frz := frz) (m := m) (Walks.list hh s.heap.objs.size l hne items) hn (freshG F) hIL (by show _ < (s.heap.push _).objs.size; rw [Heap.size_push]; exact Nat.lt_succ_self _) J (fun b hb hbI => ?_) hfz (fun i h st => let ⟨o, ho, _⟩ := st.1; ⟨o, ho⟩) (F.push _) (fun p hp => ⟨Heap.get?_push_of_some _ (N p hp).1, (N p hp).2⟩)
      (fun p hp e => absurd (Heap.lt_size (N p hp).1) (by rw [e]; exact Nat.lt_irrefl _)) ⟨⟨_, Heap.get?_push_size _ rfl, rfl, rfl⟩, hl.at fun o e => Heap.get?_push_of_some _ e⟩ (hJ _ (pushLt N))
      (fun C D oL oI i v kvs oD mc₁ nw₁ h tk a1 a2 a3 a4 a5 a6 a7 a8 a9 a10 => turn _ C D oL oI i v kvs oD mc₁ nw₁ h tk a1 a2 a3 a4 a5 a6 a7 a8 a9 a10) (fun C D kvs oD mc₁ nw₁ h tk a1 a2 a3 a4 a5 a6 a7 a8 => done C D kvs oD mc₁ nw₁ h tk a1 a2 a3 a4 a5 a6 a7 a8)
  rcases List.mem_cons.mp hb with e | hb
  · exact absurd e hbI
  · rw [List.mem_singleton.mp hb]; exact hlg
end
end
section
theorem rsPlc : True := by w_top off; k_with_none; trivial
open PySem PySem.W PyProof.Rows PySem.Calls PyProof.Rows.LSm
/-- the place that a search tells -/
def plc (b : Bool) (v : Nat → Nat) (sd : List Nat) (x : Nat) : Nat := (sd.takeWhile fun s => if b then decide (v s < x) else decide (v s ≤ x)).length
theorem tw_len {p : Nat → Bool} : ∀ (sd : List Nat), (sd.takeWhile p).length ≤ sd.length
  | [] => Nat.le_refl _
  | a :: l => by
    rw [List.takeWhile_cons]
    split
    · rw [List.length_cons, List.length_cons]; exact Nat.succ_le_succ (tw_len l)
    · exact Nat.zero_le _
theorem plc_le {b : Bool} {v : Nat → Nat} {sd : List Nat} {x : Nat} : plc b v sd x ≤ sd.length := tw_len sd
theorem plc_iff {p : Nat → Bool} {v : Nat → Nat} (hp : ∀ a c, v a ≤ v c → p c = true → p a = true) : ∀ {sd : List Nat}, sd.Pairwise (fun a c => v a ≤ v c) → ∀ {i : Nat}, i < sd.length → (p (sd.getD i 0) = true ↔ i < (sd.takeWhile p).length)
  | [], _, i, h => absurd h (Nat.not_lt_zero _)
  | a :: l, hs, i, hi => by
    rw [List.takeWhile_cons]
    rw [List.pairwise_cons] at hs
    cases hpa : p a with
    | true =>
      rw [if_pos rfl, List.length_cons]
      cases i with
      | zero =>
        rw [List.getD_cons_zero, hpa]
        exact ⟨fun _ => Nat.succ_pos _, fun _ => rfl⟩
      | succ i =>
        rw [List.getD_cons_succ, plc_iff hp hs.2 (Nat.lt_of_succ_lt_succ hi)]
        omega
    | false =>
      rw [if_neg (by decide)]
      refine ⟨fun h => ?_, fun h => absurd h (Nat.not_lt_zero _)⟩
      exfalso
      cases i with
      | zero => rw [List.getD_cons_zero, hpa] at h; cases h
      | succ i =>
        rw [List.getD_cons_succ] at h
        have hi' := Nat.lt_of_succ_lt_succ hi
        have hm : l.getD i 0 ∈ l := by
          rw [List.getD_eq_getElem?_getD, List.getElem?_eq_getElem hi']
          exact List.getElem_mem hi'
        rw [hp a _ (hs.1 _ hm) h] at hpa
        cases hpa
theorem plc_lt {v : Nat → Nat} {sd : List Nat} {x i : Nat} (hs : sd.Pairwise (fun a c => v a ≤ v c)) (hi : i < sd.length) : v (sd.getD i 0) < x ↔ i < plc true v sd x := by
  have := plc_iff (p := fun s => decide (v s < x)) (v := v) (fun a c h1 h2 => by simp at h2 ⊢; omega) hs hi
  rw [decide_eq_true_iff] at this
  exact this
theorem plc_gt {v : Nat → Nat} {sd : List Nat} {x i : Nat} (hs : sd.Pairwise (fun a c => v a ≤ v c)) (hi : i < sd.length) : x < v (sd.getD i 0) ↔ plc false v sd x ≤ i := by
  have := plc_iff (p := fun s => decide (v s ≤ x)) (v := v) (fun a c h1 h2 => by simp at h2 ⊢; omega) hs hi
  rw [decide_eq_true_iff] at this
  have e : plc false v sd x = (sd.takeWhile fun s => decide (v s ≤ x)).length := rfl
  rw [e]
  omega
theorem pw_set {v : Nat → Nat} {sd : List Nat} {r k : Nat} (hs : sd.Pairwise (fun a c => v a ≤ v c)) (h1 : ∀ i, i < r → i < sd.length → v (sd.getD i 0) ≤ v k) (h2 : ∀ i, r ≤ i → i < sd.length → v k ≤ v (sd.getD i 0)) : (sd.set r k).Pairwise (fun a c => v a ≤ v c) := by
  rw [List.pairwise_iff_getElem] at hs ⊢
  intro i j hi hj hij
  rw [List.length_set] at hi hj
  have gd : ∀ n (hn : n < sd.length), sd.getD n 0 = sd[n] := fun n hn => by rw [List.getD_eq_getElem?_getD, List.getElem?_eq_getElem hn]; rfl
  rw [List.getElem_set, List.getElem_set]
  split
  · split
    · omega
    · have := h2 j (by omega) hj
      rw [gd j hj] at this; exact this
  · split
    · have := h1 i (by omega) hi
      rw [gd i hi] at this; exact this
    · exact hs i j hi hj hij
theorem pw_app {v : Nat → Nat} {sd : List Nat} {k : Nat} (hs : sd.Pairwise (fun a c => v a ≤ v c)) (h1 : ∀ i, i < sd.length → v (sd.getD i 0) ≤ v k) : (sd ++ [k]).Pairwise (fun a c => v a ≤ v c) := by
  rw [List.pairwise_append]
  refine ⟨hs, List.pairwise_singleton _ _, fun a ha c hc => ?_⟩
  rw [List.mem_singleton.mp hc]
  obtain ⟨i, hi, rfl⟩ := List.getElem_of_mem ha
  have := h1 i hi
  rwa [List.getD_eq_getElem?_getD, List.getElem?_eq_getElem hi] at this
end
section
theorem rsRun : True := by w_top off; k_with_none; trivial
open PySem PySem.W PyProof.Rows PySem.Calls PyProof.Rows.LSm
/-- the run, on numbers -/
def runF (b : Bool) (v : Nat → Nat) : Nat → List (Option Nat) → List Nat → List Nat → Bool → Option (List Nat)
  | _, [], no, _, _ => some no
  | 0, _ :: _, _, _, _ => none
  | f + 1, none :: q, no, sd, mv => runF b v f (if mv then q ++ [none] else q) (no ++ [sd.length]) [] false
  | f + 1, some k :: q, no, sd, mv => if plc b v sd (v k) = sd.length then runF b v f q no (sd ++ [k]) mv else runF b v f (q ++ [some (sd.getD (plc b v sd (v k)) 0)]) no (sd.set (plc b v sd (v k)) k) true
/-- a word of the run -/
def wstr (X : List Nat) : Option Nat → Str
  | none => st [46]
  | some k => st (wl k (X.getD k 0))
/-- the marks of n words -/
def MkAt (w : World) (g : Heap) (md : Addr) (X : List Nat) : Prop :=
  ∃ kvs : List (Str × Value), g.DictOf (strKind VW w) md kvs ∧ ∀ k, k < X.length → ∃ a, valueAt kvs (st [97 + k]) = some (.ref a) ∧ WsAt w.params g a (X.getD k 0 % 3 + X.getD k 0 / 3 % 4) (X.getD k 0 % 3)
def nOf (X : List Nat) (k : Nat) : Nat := X.getD k 0 % 3 + X.getD k 0 / 3 % 4
def runQ : Str := Str.ofString "_law_run" ++ Str.ofString ".<locals>." ++ Str.ofString "<lambda>"
/-- what holds between two turns of the run: n turns are left, Q is to come, P of it stands in the lexer's line -/
def RunI (w : World) (L x dx sr la pb : Addr) (tx : Str) (ln c : Nat) (o1 : Obj) (X : List Nat) (b : Bool) (codes : List (Addr × Obj)) (out : List Nat) (fuel n : Nat) (Q P : List (Option Nat)) (m : Str → Option Value) (news : List (Addr × Obj)) : Prop :=
  Ex15 fun (no sd : List Nat) (mv : Bool) (qv sv : List (Str × Tok)) (vn : List Value) (nd sa : Addr) (cb cn cs : Nat) (es : List DictEntry) (t : Tok) (ps : Array Value) (nc : List (Addr × Obj)) => C21 (m (Str.ofString "lexer") = some (.ref x)) (m (Str.ofString "straight") = some (.bool b)) (m (Str.ofString "noted") = some (.ref nd)) (m (Str.ofString "stand") = some (.ref sa)) (m (Str.ofString "moved") = some (.bool mv)) (LxEs w.params ln sr pb es) (qv.map (·.1) = P.map (wstr X)) (sv.map (·.1) = sd.map (fun k => wstr X (some k))) (IntsAre vn (nats no)) ((sd.Pairwise fun a b => nOf X a ≤ nOf X b)) ((∀ k ∈ sd, k < X.length)) ((∀ k, some k ∈ Q → k < X.length)) (sd.length + Q.length ≤ 7) (no.length + n ≤ fuel) (runF b (nOf X) n Q no sd mv = some out) (TabOk ps (nc ++ codes) runQ) (L + 1 < nd) (L + 1 < sa) (nd ≠ sa) ((∀ q ∈ nc, L + 1 < q.1 ∧ q.1 ≠ nd ∧ q.1 ≠ sa)) (news = (pb, listOf (strValues qv).toArray cb) :: (dx, dictOf es 4) :: (la, listOf #[.int tx.cps.size t] c) :: (sa, listOf (strValues sv).toArray cs) :: (nd, listOf vn.toArray cn) :: (L + 1, o1) :: (180, tabObj ps) :: nc)
theorem wl_ne (k y : Nat) : ∃ a l, wl k y = a :: l ∧ (a = 9 ∨ a = 32 ∨ a = 97 + k) := by
  unfold wl
  cases h1 : y % 3 with
  | zero =>
    cases h2 : y / 3 % 4 with
    | zero => exact ⟨97 + k, [], rfl, .inr (.inr rfl)⟩
    | succ n => exact ⟨32, _, rfl, .inr (.inl rfl)⟩
  | succ n => exact ⟨9, _, rfl, .inl rfl⟩
theorem wstr_ne {X : List Nat} {q : Option Nat} : (wstr X q != Str.ofString "") = true := by
  rw [show Str.ofString "" = st [] by decide +kernel, bne_iff_ne]
  intro e
  have e2 := congrArg (fun s : Str => s.cps.size) e
  cases q with
  | none => simp [wstr] at e2
  | some k =>
    obtain ⟨a, l, h, _⟩ := wl_ne k (X.getD k 0)
    simp only [wstr, h] at e2
    simp at e2
theorem wstr_dot {X : List Nat} {k : Nat} : (wstr X (some k) == Str.ofString ".") = false := by
  rw [show Str.ofString "." = st [46] by decide +kernel, beq_eq_false_iff_ne]
  intro e
  have e2 := congrArg (fun s : Str => s.cps.toList.head?) e
  obtain ⟨a, l, h, ha⟩ := wl_ne k (X.getD k 0)
  simp only [wstr, h] at e2
  simp at e2
  omega
theorem lawRun {w : World} {mean : ExcName → Option Value} {mg mb : Str → Option Value} {A : Around} {g : Heap} {s : Shared} {R : Result → Shared → Prop}
  {x dx sr la pb : Addr} {tx : Str} {ln c cb : Nat} {t : Tok} {es : List DictEntry} {l md : Addr} {wv : List (Str × Tok)} {X rwl : List Nat} {b : Bool} {ps : Array Value} {codes : List (Addr × Obj)} {fuel : Nat} {out : List Nat}
  (hlx : LexAt w g x dx sr la tx) (hes : LxEs w.params ln sr pb es) (hda : dx ≠ la) (hdb : dx ≠ pb) (hab : la ≠ pb) (hd8 : dx ≠ 180) (ha8 : la ≠ 180) (hb8 : pb ≠ 180)
  (O : On g s.heap [(dx, dictOf es 4), (la, listOf #[.int tx.cps.size t] c), (pb, listOf #[] cb), (180, tabObj ps)]) (G : Gr w mean mg mb A 16 g) (C : CodeHd g 184 180)
  (hl : g.IsList l (strValues wv).toArray) (hw : wv.map (·.1) = (rwl.map some).map (wstr X)) (hX : X.length ≤ 6) (hrw : ∀ k ∈ rwl, k < X.length) (hrl : rwl.length ≤ 6) (hmk : MkAt w g md X)
  (hco : ∀ q ∈ codes, g.get? q.1 = some q.2) (hps : TabOk ps codes runQ) (hfu : fuel ≤ 10000)
  (hrun : runF b (nOf X) fuel (rwl.map some ++ [none]) [] [] false = some out)
  (hret : ∀ h' tk' es' t' cb' ps' nc D vs c', LxEs w.params ln sr pb es' → IntsAre vs (nats out) → TabOk ps' (nc ++ codes) runQ → On g h' ((dx, dictOf es' 4) :: (la, listOf #[.int tx.cps.size t'] c) :: (pb, listOf #[] cb') :: (180, tabObj ps') :: (D, listOf vs.toArray c') :: nc) →
    (∀ q ∈ (D, listOf vs.toArray c') :: nc, q.1 ≠ dx ∧ q.1 ≠ la ∧ q.1 ≠ pb ∧ q.1 ≠ 180) → R (.ok (.ret (.ref D))) { s with heap := h', toks := tk' }) :
  codeAny (model VW w) A (.call (.ref 185) ⟨[.ref x, .ref l, .ref md, .bool b], []⟩) R s := by
  obtain ⟨hdl, dp, fr, gd, un⟩ := A
  obtain rfl : hdl = none := G.hh
  refine' enterC (binds := [(Str.ofString "lexer", .ref x), (Str.ofString "row", .ref l), (Str.ofString "marks", .ref md), (Str.ofString "straight", .bool b)]) O G ?k6 ?k7 ?k9 ?kB ?kn ?_ ?c2 ?c3 ?c4
  case k6 => k_is
  case k7 => k_is
  case k9 => exact BindsTo.of_eq rfl
  case kB => exact rfl
  case kn => decide
  case c2 => exact rfl
  case c3 => exact rfl
  case c4 => exact rfl
  intro L' h' tk' cells F' N' Y' l1 X' T' G'
  (try dsimp only)
  k_cells Y'
  k_lt l1
  have hL1 := l1
  dsimp only [List.cons_append, List.nil_append] at N'
  k_with "nolet" => skip
  k_with "stop" => (first | (with_reducible show wpAny _ _ (binaryOp .Add _ _) _ _ _) | (with_reducible show wpAny _ _ (pyIter _) _ _ _) | (with_reducible show wpAny _ _ (exec (Stmt.For _ _ _ _ _) _) _ _ _))
  k_steps
  refine for_ ?_
  k_steps
  rename Fr _ _ _ _ => F1
  rename News _ _ _ _ => N1
  rename Obj => o1
  have hwl : wv.length = rwl.length := by have := congrArg List.length hw; simpa using this
  refine' kmk_add_lit (zs := strValues (wv ++ [(Str.ofString ".", _)])) F1 N1 (Fr.lst F1 hl) (isListN N1 (.head _)) ?e ?_ ?z
  case e => exact strV_snoc
  case z => rw [sizeLine_eq]; show (strValues wv).length + 1 ≤ _; simp [strValues]; omega
  intro D h2 F2 N2 l2
  have e46 : Str.ofString "." = wstr X none := show Str.ofString "." = st [46] by decide +kernel
  obtain ⟨wvd, hwvd⟩ : ∃ wvd, wvd = wv ++ [(Str.ofString ".", tk')] := ⟨_, rfl⟩
  rw [← hwvd] at N2
  have hwd : wvd.map (·.1) = (rwl.map some ++ [none]).map (wstr X) := by rw [hwvd, List.map_append, hw, List.map_append]; simp [e46]
  have hwdl : wvd.length = rwl.length + 1 := by rw [hwvd]; simp [hwl]
  have l2' := allLt_of l2
  simp only [AllLt] at l2'
  replace N2 := newsSub (news' := [(D, listOf (strValues wvd).toArray 0), (L' + 1, o1), (dx, dictOf es 4), (la, listOf #[.int tx.cps.size t] c), (pb, listOf #[] cb), (180, tabObj ps)]) N2 (fun q hq => by
    rcases List.mem_cons.mp hq with rfl | hq
    · exact .head _
    · exact .tail _ (.tail _ hq))
  clear F1 N1 hwvd
  have hda' := neN hda
  have hdb' := neN hdb
  have hab' := neN hab
  have hd8' := neN hd8
  have ha8' := neN ha8
  have hb8' := neN hb8
  have hlx0 := hlx.1
  have hes0 := hes
  obtain ⟨t1, t2, t3, t4, t5, t6, hes1⟩ := hes
  have hlD := isListN N2 (.head _)
  refine' forList (frz := [(D, listOf (strValues wvd).toArray 0)]) hlD (.inr ⟨_, .head _⟩) rfl rfl (fun i m₁ news₁ => Ex2 fun (qv : List (Str × Tok)) (cb' : Nat) => C4 (m₁ (Str.ofString "lexer") = some (.ref x)) (m₁ (Str.ofString "straight") = some (.bool b)) (qv.map (·.1) = (wvd.take i).map (·.1)) (news₁ = [(D, listOf (strValues wvd).toArray 0), (L' + 1, o1), (dx, dictOf es 4), (la, listOf #[.int tx.cps.size t] c), (pb, listOf (strValues qv).toArray cb'), (180, tabObj ps)])) ?hfz F2 N2 ?hJ ?turn ?done
  case hfz =>
    rintro i m₁ news₁ ⟨_, _, _, _, _, rfl⟩ q hq
    rw [List.mem_singleton.mp hq]; exact .head _
  case hJ => exact ⟨[], cb, rfl, rfl, rfl, rfl⟩
  case turn =>
    rintro I oI i v m₁ news₁ h6 tk6 hi6 hv ⟨qv, cb', e1, e2, hqv, rfl⟩ hnI F6 N6
    clear F2 N2
    replace F6 := Fr.as F6 [(Str.ofString "lexer", .ref x), (Str.ofString "straight", .bool b)] (List.forall_mem_cons.mpr ⟨e1, List.forall_mem_cons.mpr ⟨e2, List.forall_mem_nil _⟩⟩)
    clear e1 e2
    rw [List.size_toArray] at hi6
    have hi7 : i < wvd.length := by simpa [strValues] using hi6
    obtain ⟨⟨xw, tw⟩, hxw⟩ : ∃ p, wvd[i]? = some p := ⟨_, List.getElem?_eq_getElem hi7⟩
    obtain rfl : v = .str xw tw := by
      rw [List.getElem?_toArray, strValues, List.getElem?_map, hxw] at hv
      exact (Option.some.inj hv).symm
    subst hes1
    k_with "stop" => (with_reducible show wpAny _ _ (call (Value.ref _) _ _) _ _ _)
    k_steps
    rename Fr _ _ _ _ => F7
    rename News _ _ _ _ => N7
    have hnI1 := neN (hnI _ (.head _))
    have hnI2 := neN (hnI _ (.tail _ (.head _)))
    have hnI3 := neN (hnI _ (.tail _ (.tail _ (.head _))))
    have hnI4 := neN (hnI _ (.tail _ (.tail _ (.tail _ (.head _)))))
    have hnI5 := neN (hnI _ (.tail _ (.tail _ (.tail _ (.tail _ (.head _))))))
    have hnI6 := neN (hnI _ (.tail _ (.tail _ (.tail _ (.tail _ (.tail _ (.head _)))))))
    dsimp only at hnI1 hnI2 hnI3 hnI4 hnI5 hnI6
    have hqvl : qv.length = i := by have := congrArg List.length hqv; simp at this; omega
    refine' callOn F7 N7 [(pb, listOf (strValues qv).toArray cb')] [(I, oI), (D, listOf (strValues wvd).toArray 0), (L' + 1, o1), (dx, dictOf _ 4), (la, listOf #[.int tx.cps.size t] c), (180, tabObj ps)] ?hu ?hr ?dj ?_
    case hu => exact List.forall_mem_cons.mpr ⟨by k_mem, List.forall_mem_nil _⟩
    case hr => exact List.forall_mem_cons.mpr ⟨by k_mem, List.forall_mem_cons.mpr ⟨by k_mem, List.forall_mem_cons.mpr ⟨by k_mem, List.forall_mem_cons.mpr ⟨by k_mem, List.forall_mem_cons.mpr ⟨by k_mem, List.forall_mem_cons.mpr ⟨by k_mem, List.forall_mem_nil _⟩⟩⟩⟩⟩⟩
    case dj => exact m_dj1 (List.forall_mem_cons.mpr ⟨by k_ne, List.forall_mem_cons.mpr ⟨by k_ne, List.forall_mem_cons.mpr ⟨by k_ne, List.forall_mem_cons.mpr ⟨by k_ne, List.forall_mem_cons.mpr ⟨by k_ne, List.forall_mem_cons.mpr ⟨by k_ne, List.forall_mem_nil _⟩⟩⟩⟩⟩⟩)
    intro g' st' sz' O' hg' hk'
    refine pushTok (v := .str xw tw) (st' _ _ hlx0) (hg' _ (.tail _ (.tail _ (.tail _ (.head _))))) hes0 (by simp [strValues]; omega) O' ((G'.keeps st').le (by omega)) ?_
    intro h8 tk8 c8 O8
    refine ⟨_, h8, tk8, _, rfl, rfl, O8, fun F8 N8 => ?_⟩
    clear F7 N7 hg' hk' O8 O' st' sz'
    dsimp only [List.cons_append, List.nil_append] at N8
    rw [strV_snoc] at N8
    k_steps
    refine' ⟨_, _, _, [(D, listOf (strValues wvd).toArray 0), (L' + 1, o1), (dx, dictOf _ 4), (la, listOf #[.int tx.cps.size t] c), (pb, listOf (strValues (qv ++ [(xw, tw)])).toArray c8), (180, tabObj ps)], rfl, F8, newsSub N8 ?hr2, ?dj2, qv ++ [(xw, tw)], c8, rfl, rfl, ?_, rfl⟩
    case hr2 => exact List.forall_mem_cons.mpr ⟨by k_mem, List.forall_mem_cons.mpr ⟨by k_mem, List.forall_mem_cons.mpr ⟨by k_mem, List.forall_mem_cons.mpr ⟨by k_mem, List.forall_mem_cons.mpr ⟨by k_mem, List.forall_mem_cons.mpr ⟨by k_mem, List.forall_mem_cons.mpr ⟨by k_mem, List.forall_mem_nil _⟩⟩⟩⟩⟩⟩⟩
    case dj2 => exact (List.forall_mem_cons.mpr ⟨by k_ne, List.forall_mem_cons.mpr ⟨by k_ne, List.forall_mem_cons.mpr ⟨by k_ne, List.forall_mem_cons.mpr ⟨by k_ne, List.forall_mem_cons.mpr ⟨by k_ne, List.forall_mem_cons.mpr ⟨by k_ne, List.forall_mem_nil _⟩⟩⟩⟩⟩⟩)
    rw [List.take_add_one, hxw, List.map_append, List.map_append, hqv]; rfl
  case done =>
    rintro m₁ news₁ h6 tk6 ⟨qv, cb', e1, e2, hqv, rfl⟩ F6 N6
    clear F2 N2
    replace F6 := Fr.as F6 [(Str.ofString "lexer", .ref x), (Str.ofString "straight", .bool b)] (List.forall_mem_cons.mpr ⟨e1, List.forall_mem_cons.mpr ⟨e2, List.forall_mem_nil _⟩⟩)
    clear e1 e2
    have hz : (strValues wvd).toArray.size = wvd.length := by simp [strValues]
    rw [hz, List.take_length, hwd] at hqv
    replace N6 := newsSub (news' := [(L' + 1, o1), (dx, dictOf es 4), (la, listOf #[.int tx.cps.size t] c), (pb, listOf (strValues qv).toArray cb'), (180, tabObj ps)]) N6 (fun q hq => .tail _ hq)
    clear hwd hwdl hlD
    subst hes1
    k_with "nolet" => skip
    k_with "stop" => (with_reducible show wpAny _ _ (call _ (_ ++ _) _) _ _ _)
    k_steps
    k_with_none
    dsimp only [List.cons_append, List.nil_append]
    rename Fr _ _ _ _ => F7
    rename News _ _ _ _ => N7
    have hql : qv.length = rwl.length + 1 := by have := congrArg List.length hqv; simpa using this
    rename L' + 1 < _ ∧ dx < _ ∧ la < _ ∧ pb < _ ∧ 180 < _ ∧ True => hnd
    rename _ < _ ∧ L' + 1 < _ ∧ dx < _ ∧ la < _ ∧ pb < _ ∧ 180 < _ ∧ True => hsa
    rename_i nd _ _ _ sa _ _ _ _ _
    obtain ⟨hnd1, hnd2, hnd3, hnd4, hnd5, _⟩ := hnd
    obtain ⟨hsa0, hsa1, hsa2, hsa3, hsa4, hsa5, _⟩ := hsa
    have hnsa := Nat.ne_of_lt hsa0
    refine' getNext (ln := ln) (cb := cb') (qv := qv) (es := _) (rest := [(sa, listOf (strValues []).toArray 0), (nd, listOf #[] 0), (L' + 1, o1), (180, tabObj ps)]) hlx hes0 hda hdb hab (by omega) (G'.le (by omega)) F7 (newsSub N7 ?hs) ?hr ?_
    case hs => exact List.forall_mem_cons.mpr ⟨by k_mem, List.forall_mem_cons.mpr ⟨by k_mem, List.forall_mem_cons.mpr ⟨by k_mem, List.forall_mem_cons.mpr ⟨by k_mem, List.forall_mem_cons.mpr ⟨by k_mem, List.forall_mem_cons.mpr ⟨by k_mem, List.forall_mem_cons.mpr ⟨by k_mem, List.forall_mem_nil _⟩⟩⟩⟩⟩⟩⟩
    case hr => exact List.forall_mem_cons.mpr ⟨⟨by k_ne, by k_ne, by k_ne⟩, List.forall_mem_cons.mpr ⟨⟨by k_ne, by k_ne, by k_ne⟩, List.forall_mem_cons.mpr ⟨⟨by k_ne, by k_ne, by k_ne⟩, List.forall_mem_cons.mpr ⟨⟨by k_ne, by k_ne, by k_ne⟩, List.forall_mem_nil _⟩⟩⟩⟩
    intro h8 tk8 es8 t8 wd0 tw8 qv8 cb8 hes8 hq8 F8 N8
    clear F7 N7
    obtain ⟨q0, P0, hqP, hwd0, hqv8⟩ : ∃ q0 P0, rwl.map some ++ [none] = q0 :: P0 ∧ wd0 = wstr X q0 ∧ qv8.map (·.1) = P0.map (wstr X) := by
      rcases hq8 with ⟨rfl, _, _⟩ | rfl
      · cases hql
      · cases hq : rwl.map some ++ [none] with
        | nil => simp at hq
        | cons q0 P0 =>
          rw [hq] at hqv
          simp only [List.map_cons, List.cons.injEq] at hqv
          exact ⟨q0, P0, rfl, hqv.1, hqv.2⟩
    rw [hqP] at hrun
    subst hwd0
    have hQk : ∀ k, some k ∈ q0 :: P0 → k < X.length := by
      intro k hk
      rw [← hqP] at hk
      simp at hk
      exact hrw k hk
    have hQl : (q0 :: P0).length ≤ 7 := by rw [← hqP]; simp; omega
    k_with "stop" => (with_reducible show wpAny _ _ (exec (Stmt.While _ _ _ _) _) _ _ _)
    k_steps
    rename Fr _ _ _ _ => F9
    rename News _ _ _ _ => N9
    refine While_inv2 (n₀ := fuel) (fun n m₁ news₁ => (∃ tw, m₁ (Str.ofString "word") = some (.str (st []) tw) ∧ RunI w L' x dx sr la pb tx ln c o1 X b codes out fuel n [] [] m₁ news₁) ∨ (∃ q P tw, m₁ (Str.ofString "word") = some (.str (wstr X q) tw) ∧ RunI w L' x dx sr la pb tx ln c o1 X b codes out fuel n (q :: P) P m₁ news₁)) F9 N9 ?_ ?_ PassesOwn.never
    · refine .inr ⟨q0, P0, tw8, rfl, [], [], false, qv8, [], [], nd, sa, cb8, 0, 0, es8, t8, ps, [], rfl, rfl, rfl, rfl, rfl, hes8, hqv8, rfl, .nil, .nil, (fun _ h => nomatch h), hQk, by simpa using hQl, by simp, hrun, hps, ltN hnd1, ltN hsa1, hnsa, (fun _ h => nomatch h), rfl⟩
    clear F9 N9
    rintro n m₁ news₁ h₁ tk₁ F2 N2 hJ
    clear hq8 hqv8 hes8 hnd1 hnd2 hnd3 hnd4 hnd5 hsa0 hsa1 hsa2 hsa3 hsa4 hsa5 hnsa hes0 hrun hqP hQk hQl hql hqv l2' hps
    obtain ⟨hL1, hL2, hL3, hL4⟩ := hL1
    rcases hJ with ⟨tw, ew, no, sd, mv, qv, sv, vn, nd, sa, cb, cn, cs, es, t, ps, nc, e1, e2, e3, e4, e5, hes, hqv, hsv, hvn, hsrt, hsdX, hQX, hsz, hnf, hrun, htab, hnd, hsa, hns, hnc, rfl⟩ | ⟨q, P, tw, ew, no, sd, mv, qv, sv, vn, nd, sa, cb, cn, cs, es, t, ps, nc, e1, e2, e3, e4, e5, hes, hqv, hsv, hvn, hsrt, hsdX, hQX, hsz, hnf, hrun, htab, hnd, hsa, hns, hnc, rfl⟩
    · replace F2 := Fr.as F2 [(Str.ofString "word", .str (st []) tw), (Str.ofString "noted", .ref nd)] (List.forall_mem_cons.mpr ⟨ew, List.forall_mem_cons.mpr ⟨e3, List.forall_mem_nil _⟩⟩)
      k_with "stop" => (with_reducible show wpAny _ _ (compareOp CmpOp.NotEq _ _) _ _ _)
      k_steps
      refine ne_str ?_
      rw [show (st [] != Str.ofString "") = false by decide +kernel]
      k_with_none
      k_steps
      have hqv0 : qv = [] := List.map_eq_nil_iff.mp hqv
      subst hqv0
      have hout : no = out := by cases n <;> exact Option.some.inj hrun
      subst hout
      have hnd' := ltN hnd
      refine hret _ _ es t cb ps nc nd vn cn hes hvn htab (onOf F2 (newsSub N2 ?_)) ?_
      · intro q hq
        rcases List.mem_cons.mp hq with rfl | hq
        · exact .tail _ (.head _)
        rcases List.mem_cons.mp hq with rfl | hq
        · exact .tail _ (.tail _ (.head _))
        rcases List.mem_cons.mp hq with rfl | hq
        · exact .head _
        rcases List.mem_cons.mp hq with rfl | hq
        · exact .tail _ (.tail _ (.tail _ (.tail _ (.tail _ (.tail _ (.head _))))))
        rcases List.mem_cons.mp hq with rfl | hq
        · exact .tail _ (.tail _ (.tail _ (.tail _ (.head _))))
        · exact .tail _ (.tail _ (.tail _ (.tail _ (.tail _ (.tail _ (.tail _ hq))))))
      · refine List.forall_mem_cons.mpr ⟨⟨by k_ne, by k_ne, by k_ne, by k_ne⟩, fun q hq => ?_⟩
        have hq' := ltN (hnc q hq).1
        exact ⟨by k_ne, by k_ne, by k_ne, by k_ne⟩
    · replace F2 := Fr.as F2 [(Str.ofString "word", .str (wstr X q) tw), (Str.ofString "noted", .ref nd), (Str.ofString "lexer", .ref x), (Str.ofString "straight", .bool b), (Str.ofString "stand", .ref sa), (Str.ofString "moved", .bool mv)] (List.forall_mem_cons.mpr ⟨ew, List.forall_mem_cons.mpr ⟨e3, List.forall_mem_cons.mpr ⟨e1, List.forall_mem_cons.mpr ⟨e2, List.forall_mem_cons.mpr ⟨e4, List.forall_mem_cons.mpr ⟨e5, List.forall_mem_nil _⟩⟩⟩⟩⟩⟩)
      clear ew e1 e2 e3 e4 e5
      k_with "stop" => (with_reducible show wpAny _ _ (compareOp CmpOp.NotEq _ _) _ _ _)
      k_steps
      refine ne_str ?_
      rw [wstr_ne]
      k_with "stop" => (with_reducible show wpAny _ _ (exec (Stmt.If _ _ _ _) _) _ _ _)
      k_steps
      obtain ⟨n', rfl⟩ : ∃ n', n = n' + 1 := by
        cases n with
        | zero => cases q <;> cases hrun
        | succ n' => exact ⟨n', rfl⟩
      refine wpAny_mono (Q := fun fl s' => fl = .next ∧ Ex5 fun h' tk m' news' P' => C4 (s' = { s with heap := h', toks := tk }) (Fr g L' h' m') (News g L' h' news') (RunI w L' x dx sr la pb tx ln c o1 X b codes out fuel n' P' P' m' news')) ?_ (fun fl s' hm => ?_) (fun _ _ e => e)
      · have hnd' := ltN hnd
        have hsa' := ltN hsa
        have hns' := neN hns
        have hqvl : qv.length ≤ 7 := by have := congrArg List.length hqv; simp at this; simp at hsz; omega
        have hsvl : sv.length = sd.length := by have := congrArg List.length hsv; simpa using this
        have hvnl : vn.length = no.length := by have := hvn.length; simpa using this
        have hes0 := hes
        obtain ⟨t1, t2, t3, t4, t5, t6, rfl⟩ := hes
        have hncpb : ∀ q ∈ nc, q.1 ≠ pb := fun q hq => by have := ltN (hnc q hq).1; k_ne
        have hncnd : ∀ q ∈ nc, q.1 ≠ nd := fun q hq => (hnc q hq).2.1
        have hncsa : ∀ q ∈ nc, q.1 ≠ sa := fun q hq => (hnc q hq).2.2
        have hnc180 : ∀ q ∈ nc, q.1 ≠ 180 := fun q hq => by have := ltN (hnc q hq).1; k_ne
        k_with_none
        k_with "stop" => (with_reducible show wpAny _ _ (compareOp CmpOp.Eq _ _) _ _ _)
        k_steps
        refine eq_str ?_
        cases q with
        | none =>
          rw [show (wstr X none == Str.ofString ".") = true from (show (st [46] == Str.ofString ".") = true by decide +kernel)]
          k_with "stop" => (first | (with_reducible show wpAny _ _ (call (Value.builtin "len") _) _ _ _) | (with_reducible show wpAny _ _ (call (Value.builtin "list.append") _) _ _ _))
          k_steps
          rename News _ _ _ _ => N3
          rename Fr _ _ _ _ => F3
          refine lenN N3 (l := sa) (items := (strValues sv).toArray) (c := cs) (by k_mem) (by simp [strValues]; omega) ?_
          intro t4 tk4
          rw [show ((strValues sv).toArray.size : Int) = ((sd.length : Nat) : Int) by simp [strValues, hsvl]]
          k_steps
          refine' append_K F3 N3 ?U ?_ ?z
          case U => k_upd
          case z => rw [List.size_toArray, sizeLine_eq]; omega
          intro h5 F5 N5
          clear F3 N3
          rw [pushL] at N5
          k_with "stop" => (first | (with_reducible show wpAny _ _ (call (Value.ref _) _ _) _ _ _) | (with_reducible show wpAny _ _ (exec (Stmt.If _ _ _ _) _) _ _ _))
          k_steps
          have hvn5 : IntsAre (vn ++ [Value.int ((sd.length : Nat) : Int) t4]) (nats (no ++ [sd.length])) := by
            rw [nats, List.map_append]; exact IntsAre.snoc hvn
          cases mv with
          | false =>
            k_with_none
            k_with "stop" => (with_reducible show _ = Flow.next ∧ _)
            k_steps
            rename Fr _ _ _ _ => F6
            rename News _ _ _ _ => N6
            have hs2 := ‹pb < _ ∧ dx < _ ∧ la < _ ∧ sa < _ ∧ nd < _ ∧ L' + 1 < _ ∧ 180 < _ ∧ AllLt _ nc›
            refine' ⟨rfl, _, _, _, _, P, rfl, F6, newsSub N6 ?mem, no ++ [sd.length], [], false, qv, [], vn ++ [_], nd, _, cb, cn + 1, 0, _, t, ps, nc, rfl, rfl, rfl, rfl, rfl, hes0, hqv, rfl, hvn5, .nil, (fun _ h => nomatch h), ?hQ, ?hsz, ?hnf, ?hrun, htab, hnd, ltN hs2.2.2.2.2.2.1, Nat.ne_of_lt hs2.2.2.2.2.1, ?b3, rfl⟩
            case mem => exact List.forall_mem_cons.mpr ⟨by k_mem, List.forall_mem_cons.mpr ⟨by k_mem, List.forall_mem_cons.mpr ⟨by k_mem, List.forall_mem_cons.mpr ⟨by k_mem, List.forall_mem_cons.mpr ⟨by k_mem, List.forall_mem_cons.mpr ⟨by k_mem, List.forall_mem_cons.mpr ⟨by k_mem, fun q hq => .tail _ (.tail _ (.tail _ (.tail _ (.tail _ (.tail _ (.tail _ (.tail _ hq)))))))⟩⟩⟩⟩⟩⟩⟩
            case hQ => exact fun k hk => hQX k (.tail _ hk)
            case hsz => simp at hsz ⊢; omega
            case hnf => simp; omega
            case hrun => exact hrun
            case b3 => exact fun q hq => ⟨(hnc q hq).1, (hnc q hq).2.1, allLt_ne hs2.2.2.2.2.2.2.2 q hq⟩
          | true =>
            k_with_none
            k_with "stop" => (with_reducible show wpAny _ _ (call (Value.ref _) _ _) _ _ _)
            k_steps
            rename Fr _ _ _ _ => F6
            rename News _ _ _ _ => N6
            refine' pushNext (xw := wstr X none) hlx hes0 hdb (by omega) (G'.le (by omega)) F6 N6 ?hr4 ?_
            case hr4 => exact List.forall_mem_cons.mpr ⟨by k_ne, List.forall_mem_cons.mpr ⟨by k_ne, List.forall_mem_cons.mpr ⟨by k_ne, List.forall_mem_cons.mpr ⟨by k_ne, List.forall_mem_cons.mpr ⟨by k_ne, hncpb⟩⟩⟩⟩⟩
            intro h7 tk7 cb7 F7 N7
            clear F6 N6
            k_with_none
            k_with "stop" => (with_reducible show _ = Flow.next ∧ _)
            k_steps
            rename Fr _ _ _ _ => F8
            rename News _ _ _ _ => N8
            have hs2 := ‹pb < _ ∧ dx < _ ∧ la < _ ∧ sa < _ ∧ nd < _ ∧ L' + 1 < _ ∧ 180 < _ ∧ AllLt _ nc›
            refine' ⟨rfl, _, _, _, _, P ++ [none], rfl, F8, newsSub N8 ?mem2, no ++ [sd.length], [], false, _, [], vn ++ [_], nd, _, cb7, cn + 1, 0, _, t, ps, nc, rfl, rfl, rfl, rfl, rfl, hes0, ?hqv2, rfl, hvn5, .nil, (fun _ h => nomatch h), ?hQ2, ?hsz2, ?hnf2, ?hrun2, htab, hnd, ltN hs2.2.2.2.2.2.1, Nat.ne_of_lt hs2.2.2.2.2.1, ?b32, rfl⟩
            case mem2 => exact List.forall_mem_cons.mpr ⟨by k_mem, List.forall_mem_cons.mpr ⟨by k_mem, List.forall_mem_cons.mpr ⟨by k_mem, List.forall_mem_cons.mpr ⟨by k_mem, List.forall_mem_cons.mpr ⟨by k_mem, List.forall_mem_cons.mpr ⟨by k_mem, List.forall_mem_cons.mpr ⟨by k_mem, fun q hq => .tail _ (.tail _ (.tail _ (.tail _ (.tail _ (.tail _ (.tail _ (.tail _ hq)))))))⟩⟩⟩⟩⟩⟩⟩
            case hqv2 => rw [List.map_append, hqv, List.map_append]; rfl
            case hQ2 =>
              intro k hk
              rcases List.mem_append.mp hk with hk | hk
              · exact hQX k (.tail _ hk)
              · cases List.mem_singleton.mp hk
            case hsz2 => simp at hsz ⊢; omega
            case hnf2 => simp; omega
            case hrun2 => exact hrun
            case b32 => exact fun q hq => ⟨(hnc q hq).1, (hnc q hq).2.1, allLt_ne hs2.2.2.2.2.2.2.2 q hq⟩
        | some k =>
          rw [wstr_dot]
          have hkX : k < X.length := hQX k (.head _)
          obtain ⟨kvs, hkv, hkvs⟩ := hmk
          obtain ⟨aw, hva, dw, ew, hw1, hw2, u1, u2, u3, u4, u5, rv, nv, tn, tt, rfl⟩ := hkvs k hkX
          k_with_none
          k_with "stop" => (first | (with_reducible show wpAny _ _ (subscriptTail _ _ _ _) _ _ _) | (with_reducible show wpAny _ _ (exec (Stmt.If _ _ _ _) _) _ _ _))
          k_steps
          refine itemZ' (x := wstr X (some k)) (l := wl k (X.getD k 0)) (i := -1) (c := 97 + k) rfl (by have := wl_len k (X.getD k 0); omega) (by have := wl_pos k (X.getD k 0); omega) (by omega) (wl_last _ _) ?_
          intro t4 tk4
          rename Fr _ _ _ _ => F3
          refine markGet F3 hkv hva ?_
          intro tk5
          k_steps
          rename Fr _ _ _ _ => F6
          obtain ⟨r, hr⟩ : ∃ r, r = plc b (nOf X) sd (nOf X k) := ⟨_, rfl⟩
          refine wpAny_mono (Q := fun fl s' => fl = .next ∧ Ex7 fun h' tk' tp ps' nc' m' es' => C13 (s' = { s with heap := h', toks := tk' }) (LxEs w.params ln sr pb es') (Fr g L' h' m') (m' (Str.ofString "place") = some (.int (r : Nat) tp)) (m' (Str.ofString "word") = some (.str (wstr X (some k)) tw)) (m' (Str.ofString "lexer") = some (.ref x)) (m' (Str.ofString "straight") = some (.bool b)) (m' (Str.ofString "noted") = some (.ref nd)) (m' (Str.ofString "stand") = some (.ref sa)) (m' (Str.ofString "moved") = some (.bool mv)) (News g L' h' ((pb, listOf (strValues qv).toArray cb) :: (dx, dictOf es' 4) :: (la, listOf #[.int tx.cps.size t] c) :: (sa, listOf (strValues sv).toArray cs) :: (nd, listOf vn.toArray cn) :: (L' + 1, o1) :: (180, tabObj ps') :: nc')) (TabOk ps' (nc' ++ codes) runQ) ((∀ q ∈ nc', L' + 1 < q.1 ∧ q.1 ≠ nd ∧ q.1 ≠ sa))) ?_ (fun fl s' hm => ?_) (fun _ _ e => e)
          · k_with_none
            cases b with
            | true =>
              k_with "stop" => (with_reducible show wpAny _ _ (eval (Expr.Lambda _ _ _ _) _) _ _ _)
              k_steps
              rename Fr _ _ _ _ => F8
              rename News _ _ _ _ => N8
              refine kla_eval rfl ?_
              refine' lamOn F8 N8 T' C rfl ?U htab rfl ?_
              case U => k_updF
              intro f c' ctv h9 tk9 ps9 nc9 oc9 vs9 tt9 F9 N9 htab9 hcm hd9 hq9 hnc9 hf9 hncf9
              clear F8 N8
              k_with_none
              k_with "stop" => (with_reducible show wpAny _ _ (call (Value.ref _) _ _) _ _ _)
              k_steps
              k_with_none
              have hc' : ∀ g', (∀ q ∈ nc9 ++ nc, g'.get? q.1 = some q.2) → g.StaysIn g' → g'.get? c' = some oc9 := fun g' h1 h2 => by
                rcases List.mem_append.mp hcm with hm | hm
                · exact h1 _ (List.mem_append_left _ hm)
                rcases List.mem_append.mp hm with hm | hm
                · exact h1 _ (List.mem_append_right _ hm)
                · exact h2 _ _ (hco _ hm)
              refine callOn F9 N9 [] _ (fun _ h => nomatch h) (fun _ h => h) (fun _ _ _ h => nomatch h) (fun g' st' sz' O' hg' hk' => ?_)
              have hnn : ∀ q ∈ nc9 ++ nc, g'.get? q.1 = some q.2 := by
                intro q hq
                refine hg' q (.tail _ ?_)
                rcases List.mem_append.mp hq with hq | hq
                · exact List.mem_append_left _ hq
                · exact List.mem_append_right _ (.tail _ (.tail _ (.tail _ (.tail _ (.tail _ (.tail _ (.tail _ hq)))))))
              have hc'' := hc' g' hnn st'
              have hf' := hg' (f, _) (.head _)
              have hsa9 : g'.IsList sa (strValues sv).toArray := ⟨_, hg' (sa, listOf (strValues sv).toArray cs) (.tail _ (List.mem_append_right _ (.tail _ (.tail _ (.tail _ (.head _)))))), rfl, cs, rfl⟩
              have hce : g'.IsCell (L' + 1) (some (.ref md)) := ⟨o1, hg' (L' + 1, o1) (.tail _ (List.mem_append_right _ (.tail _ (.tail _ (.tail _ (.tail _ (.tail _ (.head _)))))))), by assumption⟩
              have hsx : (strValues sv).toArray.size = sd.length := by simp [strValues, hsvl]
              have hK : KeyC w g' f (strValues sv).toArray (fun i v _ => ∃ t, v = .int ((nOf X (sd.getD i 0) : Nat) : Int) t) := by
                intro A2 s2 R2 i v hv hst hsz2 hdep hun hh2 hret2
                obtain ⟨hdl2, dp2, fr2, gd2, un2⟩ := A2
                obtain rfl : hdl2 = none := hh2
                have hi : i < sd.length := by
                  have := (Array.getElem?_eq_some_iff.mp hv).1
                  omega
                obtain ⟨k2, hk2⟩ : ∃ k2, sd[i]? = some k2 := ⟨_, List.getElem?_eq_getElem hi⟩
                have hk2X := hsdX k2 (List.mem_of_getElem? hk2)
                have hgd : sd.getD i 0 = k2 := by rw [List.getD_eq_getElem?_getD, hk2]; rfl
                obtain ⟨tv2, rfl⟩ : ∃ t, v = .str (wstr X (some k2)) t := by
                  have q1 := congrArg (fun l => l[i]?) hsv
                  simp only [List.getElem?_map, hk2, Option.map_some] at q1
                  obtain ⟨p2, hp2, hp3⟩ := Option.map_eq_some_iff.mp q1
                  rw [List.getElem?_toArray, strValues, List.getElem?_map, hp2] at hv
                  exact ⟨p2.2, by rw [← hp3]; exact (Option.some.inj hv).symm⟩
                obtain ⟨aw2, hva2, dw2, ew2, hw12, hw22, y1, y2, y3, y4, y5, rv2, nv2, tn2, tt2, rfl⟩ := hkvs k2 hk2X
                have st2 : g.StaysIn s2.heap := fun b o e => hst b o (st' b o e)
                refine enterL (g := s2.heap) (news := []) (k := 2) (binds := [(Str.ofString "one", .str (wstr X (some k2)) tv2)]) ⟨fun _ _ e => e, Nat.le_refl _, fun _ h => nomatch h⟩ ⟨X'.keeps st2, T'.keeps st2, rfl, by omega, by omega⟩ (hst _ _ hf') ⟨c', oc9, vs9, tt9, rfl, hst _ _ hc'', hd9, hq9⟩ rfl (locs rfl) ?_ (by decide)
                intro L2 h2 F2 N2 l2 G2 st3 eL
                have hce2 : s2.heap.IsCell (L' + 1) (some (.ref md)) := hce.keeps hst
                k_with "stop" => (with_reducible show wpAny _ _ (subscriptTail _ _ _ _) _ _ _)
                k_steps
                refine itemZ' (x := wstr X (some k2)) (l := wl k2 (X.getD k2 0)) (i := -1) (c := 97 + k2) rfl (by have := wl_len k2 (X.getD k2 0); omega) (by have := wl_pos k2 (X.getD k2 0); omega) (by omega) (wl_last _ _) ?_
                intro t24 tk24
                rename Fr _ _ _ _ => F23
                refine markGet F23 (hkv.keep st2) hva2 ?_
                intro tk25
                have hw13 := st2 _ _ hw12
                have hw23 := st2 _ _ hw22
                have X2 := G2.X
                have T2 := G2.T
                k_steps
                rename Fr _ _ _ _ => F26
                have hv2 : ∃ t, Value.int ((X.getD k2 0 % 3 + X.getD k2 0 / 3 % 4 : Nat) : Int) tn2 = Value.int ((nOf X (sd.getD i 0) : Nat) : Int) t := ⟨tn2, by rw [hgd]; rfl⟩
                exact hret2 _ _ _ F26.keep hv2
              refine bisLeft (items := (strValues sv).toArray) (ks := fun i => ((nOf X (sd.getD i 0) : Nat) : Int)) (r := r) O' ((G'.keeps st').le (by omega)) hsa9 (by omega) ⟨_, _, _, _, hf'⟩ hK (by rw [hsx, hr]; exact plc_le) ?_ ?_
              · intro i hi
                rw [hr, ← plc_lt hsrt (by omega)]
                show ((nOf X (sd.getD i 0) : Nat) : Int) < ((nOf X k : Nat) : Int) ↔ _
                omega
              · intro tr h10 tk10 O10
                refine ⟨_, h10, tk10, [], rfl, rfl, O10, fun F10 N10 => ?_⟩
                clear F9 N9 hg' hk' O' O10 hK
                k_with_none
                k_with "stop" => (with_reducible show _ = Flow.next ∧ _)
                dsimp only [List.nil_append] at N10
                k_steps
                rename Fr _ _ _ _ => F11
                rename News _ _ _ _ => N11
                refine' ⟨rfl, _, _, tr, ps9, nc9 ++ nc, _, _, rfl, hes0, F11, rfl, rfl, rfl, rfl, rfl, rfl, rfl, newsSub N11 ?mem7, ?tab7, ?b7⟩
                case mem7 =>
                  refine List.forall_mem_cons.mpr ⟨(.tail _ (List.mem_append_right _ (by k_mem))), List.forall_mem_cons.mpr ⟨(.tail _ (List.mem_append_right _ (by k_mem))), List.forall_mem_cons.mpr ⟨(.tail _ (List.mem_append_right _ (by k_mem))), List.forall_mem_cons.mpr ⟨(.tail _ (List.mem_append_right _ (by k_mem))), List.forall_mem_cons.mpr ⟨(.tail _ (List.mem_append_right _ (by k_mem))), List.forall_mem_cons.mpr ⟨(.tail _ (List.mem_append_right _ (by k_mem))), List.forall_mem_cons.mpr ⟨(.tail _ (List.mem_append_right _ (by k_mem))), fun q hq => .tail _ ?_⟩⟩⟩⟩⟩⟩⟩
                  rcases List.mem_append.mp hq with hq | hq
                  · exact List.mem_append_left _ hq
                  · exact List.mem_append_right _ (.tail _ (.tail _ (.tail _ (.tail _ (.tail _ (.tail _ (.tail _ hq)))))))
                case tab7 => rw [List.append_assoc]; exact htab9
                case b7 =>
                  intro q hq
                  rcases List.mem_append.mp hq with hq | hq
                  · exact ⟨hnc9 q hq (L' + 1, o1) (by k_mem), Ne.symm (Nat.ne_of_lt (hnc9 q hq (nd, listOf vn.toArray cn) (by k_mem))), Ne.symm (Nat.ne_of_lt (hnc9 q hq (sa, listOf (strValues sv).toArray cs) (by k_mem)))⟩
                  · exact hnc q hq
            | false =>
              k_with "stop" => (with_reducible show wpAny _ _ (eval (Expr.Lambda _ _ _ _) _) _ _ _)
              k_steps
              rename Fr _ _ _ _ => F8
              rename News _ _ _ _ => N8
              refine kla_eval rfl ?_
              refine' lamOn F8 N8 T' C rfl ?U htab rfl ?_
              case U => k_updF
              intro f c' ctv h9 tk9 ps9 nc9 oc9 vs9 tt9 F9 N9 htab9 hcm hd9 hq9 hnc9 hf9 hncf9
              clear F8 N8
              k_with_none
              k_with "stop" => (with_reducible show wpAny _ _ (call (Value.ref _) _ _) _ _ _)
              k_steps
              k_with_none
              have hc' : ∀ g', (∀ q ∈ nc9 ++ nc, g'.get? q.1 = some q.2) → g.StaysIn g' → g'.get? c' = some oc9 := fun g' h1 h2 => by
                rcases List.mem_append.mp hcm with hm | hm
                · exact h1 _ (List.mem_append_left _ hm)
                rcases List.mem_append.mp hm with hm | hm
                · exact h1 _ (List.mem_append_right _ hm)
                · exact h2 _ _ (hco _ hm)
              refine callOn F9 N9 [] _ (fun _ h => nomatch h) (fun _ h => h) (fun _ _ _ h => nomatch h) (fun g' st' sz' O' hg' hk' => ?_)
              have hnn : ∀ q ∈ nc9 ++ nc, g'.get? q.1 = some q.2 := by
                intro q hq
                refine hg' q (.tail _ ?_)
                rcases List.mem_append.mp hq with hq | hq
                · exact List.mem_append_left _ hq
                · exact List.mem_append_right _ (.tail _ (.tail _ (.tail _ (.tail _ (.tail _ (.tail _ (.tail _ hq)))))))
              have hc'' := hc' g' hnn st'
              have hf' := hg' (f, _) (.head _)
              have hsa9 : g'.IsList sa (strValues sv).toArray := ⟨_, hg' (sa, listOf (strValues sv).toArray cs) (.tail _ (List.mem_append_right _ (.tail _ (.tail _ (.tail _ (.head _)))))), rfl, cs, rfl⟩
              have hce : g'.IsCell (L' + 1) (some (.ref md)) := ⟨o1, hg' (L' + 1, o1) (.tail _ (List.mem_append_right _ (.tail _ (.tail _ (.tail _ (.tail _ (.tail _ (.head _)))))))), by assumption⟩
              have hsx : (strValues sv).toArray.size = sd.length := by simp [strValues, hsvl]
              have hK : KeyC w g' f (strValues sv).toArray (fun i v _ => ∃ t, v = .int ((nOf X (sd.getD i 0) : Nat) : Int) t) := by
                intro A2 s2 R2 i v hv hst hsz2 hdep hun hh2 hret2
                obtain ⟨hdl2, dp2, fr2, gd2, un2⟩ := A2
                obtain rfl : hdl2 = none := hh2
                have hi : i < sd.length := by
                  have := (Array.getElem?_eq_some_iff.mp hv).1
                  omega
                obtain ⟨k2, hk2⟩ : ∃ k2, sd[i]? = some k2 := ⟨_, List.getElem?_eq_getElem hi⟩
                have hk2X := hsdX k2 (List.mem_of_getElem? hk2)
                have hgd : sd.getD i 0 = k2 := by rw [List.getD_eq_getElem?_getD, hk2]; rfl
                obtain ⟨tv2, rfl⟩ : ∃ t, v = .str (wstr X (some k2)) t := by
                  have q1 := congrArg (fun l => l[i]?) hsv
                  simp only [List.getElem?_map, hk2, Option.map_some] at q1
                  obtain ⟨p2, hp2, hp3⟩ := Option.map_eq_some_iff.mp q1
                  rw [List.getElem?_toArray, strValues, List.getElem?_map, hp2] at hv
                  exact ⟨p2.2, by rw [← hp3]; exact (Option.some.inj hv).symm⟩
                obtain ⟨aw2, hva2, dw2, ew2, hw12, hw22, y1, y2, y3, y4, y5, rv2, nv2, tn2, tt2, rfl⟩ := hkvs k2 hk2X
                have st2 : g.StaysIn s2.heap := fun b o e => hst b o (st' b o e)
                refine enterL (g := s2.heap) (news := []) (k := 2) (binds := [(Str.ofString "one", .str (wstr X (some k2)) tv2)]) ⟨fun _ _ e => e, Nat.le_refl _, fun _ h => nomatch h⟩ ⟨X'.keeps st2, T'.keeps st2, rfl, by omega, by omega⟩ (hst _ _ hf') ⟨c', oc9, vs9, tt9, rfl, hst _ _ hc'', hd9, hq9⟩ rfl (locs rfl) ?_ (by decide)
                intro L2 h2 F2 N2 l2 G2 st3 eL
                have hce2 : s2.heap.IsCell (L' + 1) (some (.ref md)) := hce.keeps hst
                k_with "stop" => (with_reducible show wpAny _ _ (subscriptTail _ _ _ _) _ _ _)
                k_steps
                refine itemZ' (x := wstr X (some k2)) (l := wl k2 (X.getD k2 0)) (i := -1) (c := 97 + k2) rfl (by have := wl_len k2 (X.getD k2 0); omega) (by have := wl_pos k2 (X.getD k2 0); omega) (by omega) (wl_last _ _) ?_
                intro t24 tk24
                rename Fr _ _ _ _ => F23
                refine markGet F23 (hkv.keep st2) hva2 ?_
                intro tk25
                have hw13 := st2 _ _ hw12
                have hw23 := st2 _ _ hw22
                have X2 := G2.X
                have T2 := G2.T
                k_steps
                rename Fr _ _ _ _ => F26
                have hv2 : ∃ t, Value.int ((X.getD k2 0 % 3 + X.getD k2 0 / 3 % 4 : Nat) : Int) tn2 = Value.int ((nOf X (sd.getD i 0) : Nat) : Int) t := ⟨tn2, by rw [hgd]; rfl⟩
                exact hret2 _ _ _ F26.keep hv2
              refine bisRight (items := (strValues sv).toArray) (xv := .int ((nOf X k : Nat) : Int) tn) (Kv := fun i v _ => ∃ t, v = .int ((nOf X (sd.getD i 0) : Nat) : Int) t) (lt := fun i => decide (nOf X k < nOf X (sd.getD i 0))) (r := r) (tl := 209) (.inl ⟨rfl, rfl⟩) O' ((G'.keeps st').le (by omega)) hsa9 (by omega) ⟨_, _, _, _, hf'⟩ hK ?_ (by rw [hsx, hr]; exact plc_le) ?_ ?_
              · intro A3 s3 Q3 i v hi hst3 hkv3 hun3 hh3 h3
                obtain ⟨t3, rfl⟩ := hkv3
                refine lt_int ?_
                have e3 : decide (((nOf X k : Nat) : Int) < ((nOf X (sd.getD i 0) : Nat) : Int)) = decide (nOf X k < nOf X (sd.getD i 0)) := decide_eq_decide.mpr (by omega)
                rw [e3]
                exact h3 s3.heap s3.toks (fun _ _ e => e)
              · intro i hi
                rw [hr, decide_eq_true_iff]
                exact plc_gt hsrt (by omega)
              · intro tr h10 tk10 O10
                refine ⟨_, h10, tk10, [], rfl, rfl, O10, fun F10 N10 => ?_⟩
                clear F9 N9 hg' hk' O' O10 hK
                k_with_none
                k_with "stop" => (with_reducible show _ = Flow.next ∧ _)
                dsimp only [List.nil_append] at N10
                k_steps
                rename Fr _ _ _ _ => F11
                rename News _ _ _ _ => N11
                refine' ⟨rfl, _, _, tr, ps9, nc9 ++ nc, _, _, rfl, hes0, F11, rfl, rfl, rfl, rfl, rfl, rfl, rfl, newsSub N11 ?mem7, ?tab7, ?b7⟩
                case mem7 =>
                  refine List.forall_mem_cons.mpr ⟨(.tail _ (List.mem_append_right _ (by k_mem))), List.forall_mem_cons.mpr ⟨(.tail _ (List.mem_append_right _ (by k_mem))), List.forall_mem_cons.mpr ⟨(.tail _ (List.mem_append_right _ (by k_mem))), List.forall_mem_cons.mpr ⟨(.tail _ (List.mem_append_right _ (by k_mem))), List.forall_mem_cons.mpr ⟨(.tail _ (List.mem_append_right _ (by k_mem))), List.forall_mem_cons.mpr ⟨(.tail _ (List.mem_append_right _ (by k_mem))), List.forall_mem_cons.mpr ⟨(.tail _ (List.mem_append_right _ (by k_mem))), fun q hq => .tail _ ?_⟩⟩⟩⟩⟩⟩⟩
                  rcases List.mem_append.mp hq with hq | hq
                  · exact List.mem_append_left _ hq
                  · exact List.mem_append_right _ (.tail _ (.tail _ (.tail _ (.tail _ (.tail _ (.tail _ (.tail _ hq)))))))
                case tab7 => rw [List.append_assoc]; exact htab9
                case b7 =>
                  intro q hq
                  rcases List.mem_append.mp hq with hq | hq
                  · exact ⟨hnc9 q hq (L' + 1, o1) (by k_mem), Ne.symm (Nat.ne_of_lt (hnc9 q hq (nd, listOf vn.toArray cn) (by k_mem))), Ne.symm (Nat.ne_of_lt (hnc9 q hq (sa, listOf (strValues sv).toArray cs) (by k_mem)))⟩
                  · exact hnc q hq
          · obtain ⟨rfl, h7, tk7, tp, ps7, nc7, m7, es7, rfl, hes7, F7, e1, e2, e3, e4, e5, e6, e7, N7, htab7, hnc7⟩ := hm
            replace F7 := Fr.as F7 [(Str.ofString "place", .int (r : Nat) tp), (Str.ofString "word", .str (wstr X (some k)) tw), (Str.ofString "lexer", .ref x), (Str.ofString "straight", .bool b), (Str.ofString "noted", .ref nd), (Str.ofString "stand", .ref sa), (Str.ofString "moved", .bool mv)] (List.forall_mem_cons.mpr ⟨e1, List.forall_mem_cons.mpr ⟨e2, List.forall_mem_cons.mpr ⟨e3, List.forall_mem_cons.mpr ⟨e4, List.forall_mem_cons.mpr ⟨e5, List.forall_mem_cons.mpr ⟨e6, List.forall_mem_cons.mpr ⟨e7, List.forall_mem_nil _⟩⟩⟩⟩⟩⟩⟩)
            clear e1 e2 e3 e4 e5 e6 e7 F6 hncpb hncnd hncsa hnc180 hnc hw1 hw2 hkvs hkv hva htab hes0
            have hncpb : ∀ q ∈ nc7, q.1 ≠ pb := fun q hq => by have := ltN (hnc7 q hq).1; k_ne
            have hncsa : ∀ q ∈ nc7, q.1 ≠ sa := fun q hq => (hnc7 q hq).2.2
            dsimp only
            have hes0 := hes7
            obtain ⟨t1, t2, t3, t4, t5, t6, rfl⟩ := hes7
            have hrle : r ≤ sd.length := by rw [hr]; exact plc_le
            have hrun' := hrun
            rw [runF, ← hr] at hrun'
            k_with_none
            k_with "stop" => (first | (with_reducible show wpAny _ _ (call (Value.builtin "len") _) _ _ _) | (with_reducible show wpAny _ _ (compareOp CmpOp.Eq _ _) _ _ _))
            k_steps
            rename News _ _ _ _ => N8
            rename Fr _ _ _ _ => F8
            refine lenN N8 (l := sa) (items := (strValues sv).toArray) (c := cs) (by k_mem) (by simp [strValues]; omega) ?_
            intro t8 tk8
            rw [show ((strValues sv).toArray.size : Int) = ((sd.length : Nat) : Int) by simp [strValues, hsvl]]
            refine eq_int ?_
            by_cases hrl : r = sd.length
            · rw [show (((r : Nat) : Int) == ((sd.length : Nat) : Int)) = true by rw [hrl, beq_self_eq_true]]
              rw [if_pos hrl] at hrun'
              k_with_none
              k_with "stop" => (with_reducible show wpAny _ _ (call (Value.builtin "list.append") _) _ _ _)
              k_steps
              rename News _ _ _ _ => N9
              rename Fr _ _ _ _ => F9
              refine' append_K F9 N9 ?U ?_ ?z
              case U => k_upd
              case z => rw [List.size_toArray, sizeLine_eq]; simp [strValues]; omega
              intro h10 F10 N10
              clear F9 N9
              rw [pushL, strV_snoc] at N10
              k_with_none
              k_with "stop" => (with_reducible show _ = Flow.next ∧ _)
              k_steps
              rename Fr _ _ _ _ => F11
              rename News _ _ _ _ => N11
              refine' ⟨rfl, _, _, _, _, P, rfl, F11, N11, no, sd ++ [k], mv, qv, sv ++ [(wstr X (some k), tw)], vn, nd, sa, cb, cn, cs + 1, _, t, ps7, nc7, rfl, rfl, rfl, rfl, rfl, hes0, hqv, ?hsv2, hvn, ?srt2, ?sdX2, ?hQ8, ?hsz8, ?hnf8, hrun', htab7, hnd, hsa, hns, hnc7, rfl⟩
              case hsv2 => rw [List.map_append, hsv, List.map_append]; rfl
              case srt2 =>
                refine pw_app hsrt (fun i hi => ?_)
                cases b with
                | true => exact Nat.le_of_lt ((plc_lt hsrt hi).mpr (by rw [← hr, hrl]; exact hi))
                | false => exact Nat.le_of_not_lt (fun h => by have := (plc_gt hsrt hi).mp h; omega)
              case sdX2 =>
                intro q hq
                rcases List.mem_append.mp hq with hq | hq
                · exact hsdX q hq
                · rw [List.mem_singleton.mp hq]; exact hkX
              case hQ8 => exact fun q hq => hQX q (.tail _ hq)
              case hsz8 => simp at hsz ⊢; omega
              case hnf8 => omega
            · rw [show (((r : Nat) : Int) == ((sd.length : Nat) : Int)) = false by rw [beq_eq_false_iff_ne]; omega]
              rw [if_neg hrl] at hrun'
              have hrlt : r < sd.length := by omega
              obtain ⟨kr, hkr⟩ : ∃ kr, sd[r]? = some kr := ⟨_, List.getElem?_eq_getElem hrlt⟩
              have hgr : sd.getD r 0 = kr := by rw [List.getD_eq_getElem?_getD, hkr]; rfl
              have hkrX := hsdX kr (List.mem_of_getElem? hkr)
              rw [hgr] at hrun'
              obtain ⟨tr, htr⟩ : ∃ t, (strValues sv)[r]? = some (.str (wstr X (some kr)) t) := by
                have q1 := congrArg (fun l => l[r]?) hsv
                simp only [List.getElem?_map, hkr, Option.map_some] at q1
                obtain ⟨p2, hp2, hp3⟩ := Option.map_eq_some_iff.mp q1
                exact ⟨p2.2, by rw [strValues, List.getElem?_map, hp2, ← hp3]; rfl⟩
              k_with_none
              k_with "stop" => (first | (with_reducible show wpAny _ _ (subscriptTail _ _ _ _) _ _ _) | (with_reducible show wpAny _ _ (call (Value.ref _) _ _) _ _ _))
              k_steps
              rename News _ _ _ _ => N9
              refine itemN N9 (l := sa) (c := cs) (by k_mem) htr (by omega) ?_
              k_steps
              rename News _ _ _ _ => N10
              rename Fr _ _ _ _ => F10
              refine' pushNext (xw := wstr X (some kr)) hlx hes0 hdb (by omega) (G'.le (by omega)) F10 N10 ?hr9 ?_
              case hr9 => exact List.forall_mem_cons.mpr ⟨by k_ne, List.forall_mem_cons.mpr ⟨by k_ne, List.forall_mem_cons.mpr ⟨by k_ne, List.forall_mem_cons.mpr ⟨by k_ne, List.forall_mem_cons.mpr ⟨by k_ne, hncpb⟩⟩⟩⟩⟩
              intro h11 tk11 cb11 F11 N11
              clear F10 N10
              k_with_none
              k_with "stop" => (with_reducible show wpAny _ _ (setItem _ _ _) _ _ _)
              k_steps
              rename News _ _ _ _ => N12
              rename Fr _ _ _ _ => F12
              refine' setOn F12 N12 ?U ?hr10 ?hz10 ?_
              case U => k_upd
              case hr10 => rw [strValues, List.length_map]; omega
              case hz10 => rw [strValues, List.length_map]; omega
              intro h13 F13 N13
              clear F12 N12
              k_with_none
              k_with "stop" => (with_reducible show _ = Flow.next ∧ _)
              k_steps
              rename Fr _ _ _ _ => F14
              rename News _ _ _ _ => N14
              have esv : (strValues sv).set r (Value.str (wstr X (some k)) tw) = strValues (sv.set r (wstr X (some k), tw)) := by unfold strValues; rw [List.map_set]
              rw [esv] at N14
              refine' ⟨rfl, _, _, _, _, P ++ [some kr], rfl, F14, N14, no, sd.set r k, true, qv ++ [(wstr X (some kr), tr)], sv.set r (wstr X (some k), tw), vn, nd, sa, cb11, cn, cs, _, t, ps7, nc7, rfl, rfl, rfl, rfl, rfl, hes0, ?hqv3, ?hsv3, hvn, ?srt3, ?sdX3, ?hQ9, ?hsz9, ?hnf9, hrun', htab7, hnd, hsa, hns, hnc7, rfl⟩
              case hqv3 => rw [List.map_append, hqv, List.map_append]; rfl
              case hsv3 => rw [List.map_set, List.map_set, hsv]
              case srt3 =>
                refine pw_set hsrt (fun i hi hi2 => ?_) (fun i hi hi2 => ?_)
                · cases b with
                  | true => exact Nat.le_of_lt ((plc_lt hsrt hi2).mpr (by rw [← hr]; exact hi))
                  | false => exact Nat.le_of_not_lt (fun h => by have := (plc_gt hsrt hi2).mp h; omega)
                · cases b with
                  | true => exact Nat.le_of_not_lt (fun h => by have := (plc_lt hsrt hi2).mp h; omega)
                  | false => exact Nat.le_of_lt ((plc_gt hsrt hi2).mpr (by omega))
              case sdX3 =>
                intro q hq
                rcases List.mem_or_eq_of_mem_set hq with hq | hq
                · exact hsdX q hq
                · rw [hq]; exact hkX
              case hQ9 =>
                intro q hq
                rcases List.mem_append.mp hq with hq | hq
                · exact hQX q (.tail _ hq)
                · have := Option.some.inj (List.mem_singleton.mp hq)
                  rw [this]; exact hkrX
              case hsz9 => simp at hsz ⊢; omega
              case hnf9 => omega
      · clear F2 N2 hes hqv hsv hvn hsrt hsdX hQX hsz hnf hrun htab hnd hsa hns hnc
        obtain ⟨rfl, h3, tk3, m3, news3, P3, rfl, F3, N3, no, sd, mv, qv, sv, vn, nd, sa, cb, cn, cs, es, t, ps, nc, e1, e2, e3, e4, e5, hes, hqv, hsv, hvn, hsrt, hsdX, hQX, hsz, hnf, hrun, htab, hnd, hsa, hns, hnc, rfl⟩ := hm
        replace F3 := Fr.as F3 [(Str.ofString "noted", .ref nd), (Str.ofString "lexer", .ref x), (Str.ofString "straight", .bool b), (Str.ofString "stand", .ref sa), (Str.ofString "moved", .bool mv)] (List.forall_mem_cons.mpr ⟨e3, List.forall_mem_cons.mpr ⟨e1, List.forall_mem_cons.mpr ⟨e2, List.forall_mem_cons.mpr ⟨e4, List.forall_mem_cons.mpr ⟨e5, List.forall_mem_nil _⟩⟩⟩⟩⟩)
        clear e1 e2 e3 e4 e5
        dsimp only
        have hes0 := hes
        obtain ⟨t1, t2, t3, t4, t5, t6, rfl⟩ := hes
        k_with "stop" => (with_reducible show wpAny _ _ (call _ (_ ++ _) _) _ _ _)
        k_steps
        k_with_none
        dsimp only [List.cons_append, List.nil_append]
        rename Fr _ _ _ _ => F7
        rename News _ _ _ _ => N7
        have hqvl : qv.length ≤ 7 := by have := congrArg List.length hqv; simp at this; omega
        have hnd' := ltN hnd
        have hsa' := ltN hsa
        refine' getNext (ln := ln) hlx hes0 hda hdb hab (by omega) (G'.le (by omega)) F7 N7 ?hr3 ?_
        case hr3 =>
          refine List.forall_mem_cons.mpr ⟨⟨by k_ne, by k_ne, by k_ne⟩, List.forall_mem_cons.mpr ⟨⟨by k_ne, by k_ne, by k_ne⟩, List.forall_mem_cons.mpr ⟨⟨by k_ne, by k_ne, by k_ne⟩, List.forall_mem_cons.mpr ⟨⟨by k_ne, by k_ne, by k_ne⟩, fun q hq => ?_⟩⟩⟩⟩
          have hq' := ltN (hnc q hq).1
          exact ⟨by k_ne, by k_ne, by k_ne⟩
        intro h8 tk8 es8 t8 wd0 tw8 qv8 cb8 hes8 hq8 F8 N8
        clear F7 N7
        k_steps
        rename Fr _ _ _ _ => F9
        rename News _ _ _ _ => N9
        refine ⟨_, _, _, _, n', rfl, F9, N9, Nat.lt_succ_self _, ?_⟩
        rcases hq8 with ⟨rfl, rfl, rfl⟩ | rfl
        · have hP3 : P3 = [] := List.map_eq_nil_iff.mp hqv.symm
          subst hP3
          exact .inl ⟨tw8, rfl, no, sd, mv, [], sv, vn, nd, sa, cb8, cn, cs, es8, t8, ps, nc, rfl, rfl, rfl, rfl, rfl, hes8, rfl, hsv, hvn, hsrt, hsdX, hQX, hsz, hnf, hrun, htab, hnd, hsa, hns, hnc, rfl⟩
        · cases P3 with
          | nil => cases hqv
          | cons q3 P4 =>
            simp only [List.map_cons, List.cons.injEq] at hqv
            obtain ⟨rfl, hqv4⟩ := hqv
            exact .inr ⟨q3, P4, tw8, rfl, no, sd, mv, qv8, sv, vn, nd, sa, cb8, cn, cs, es8, t8, ps, nc, rfl, rfl, rfl, rfl, rfl, hes8, hqv4, hsv, hvn, hsrt, hsdX, hQX, hsz, hnf, hrun, htab, hnd, hsa, hns, hnc, rfl⟩
end
section
theorem rsAh : True := by w_top off; k_with_none; trivial
open PySem PySem.W PyProof.Rows PySem.Calls PyProof.Rows.LSm
/-- a row's columns at the sizes 1 to 4 -/
def colsOf (p : Nat × Nat × Nat) : List Int := (List.range 4).map fun i => ((p.1 * (1 + i) + p.2.1 : Nat) : Int)
theorem cols_get {p : Nat × Nat × Nat} {j : Nat} (hj : j < 4) : (colsOf p)[j]? = some ((p.1 * (1 + j) + p.2.1 : Nat) : Int) := by
  unfold colsOf
  rw [List.getElem?_map, List.getElem?_range hj]; rfl
theorem cntT : ∀ t, t < 3 → ∀ b, b < 4 → ∀ k, k < 6 → Txt.count (wd t b (97 + k)) (Str.ofString "\t") = (t : Int) ∧ Txt.count (wd t b (97 + k)) (Str.ofString " ") = (b : Int) := by decide +kernel
def ltk (p q : Nat × Nat × Nat) (k : Nat) : Bool := decide (((p.1 * (1 + k) + p.2.1 : Nat) : Int) < ((q.1 * (1 + k) + q.2.1 : Nat) : Int))
def ahd (p q : Nat × Nat × Nat) : Bool := ((List.range 4).map (ltk p q)).all id
def ahdM (ps : List (Nat × Nat × Nat)) : List (List Bool) := ps.map fun p => ps.map fun q => ahd p q
theorem lawAhead {w : World} {mean : ExcName → Option Value} {mg mb : Str → Option Value} {A : Around} {g : Heap} {s : Shared} {R : Result → Shared → Prop}
  {l : Addr} {wv : List (Str × Tok)} {ps : List (Nat × Nat × Nat)} (O : On g s.heap []) (G : Gr w mean mg mb A 6 g) (hl : g.IsList l (strValues wv).toArray)
  (hw : wv.map (·.1) = ps.map fun p => wd p.1 p.2.1 p.2.2) (hp : ∀ p ∈ ps, p.1 < 3 ∧ p.2.1 < 4 ∧ 97 ≤ p.2.2 ∧ p.2.2 < 103) (hn : ps.length ≤ 6)
  (hret : ∀ D c rs h' tk', RowsAre BoolsAre rs (ahdM ps) → On g h' ((D, listOf (refsOf rs).toArray c) :: rs) → R (.ok (.ret (.ref D))) { s with heap := h', toks := tk' }) :
  codeAny (model VW w) A (.call (.ref 173) ⟨[.ref l], []⟩) R s := by
  obtain ⟨hdl, dp, fr, gd, un⟩ := A
  obtain rfl : hdl = none := G.hh
  refine' enterC (binds := [(Str.ofString "row", .ref l)]) O G ?k6 ?k7 ?k9 ?kB ?kn ?_ ?c2 ?c3 ?c4
  case k6 => k_is
  case k7 => k_is
  case k9 => exact BindsTo.of_eq rfl
  case kB => exact rfl
  case kn => decide
  case c2 => exact rfl
  case c3 => exact rfl
  case c4 => exact rfl
  intro L' h' tk' cells F' N' Y' l1 X' T' G'
  (try dsimp only)
  k_cells Y'
  k_lt l1
  dsimp only [List.cons_append, List.nil_append] at N'
  k_with "stop" => (with_reducible show wpAny _ _ (eval (Expr.ListComp _ _ _ _) _) _ _ _)
  k_steps
  refine listComp_ (cl := []) rfl rfl (by decide) ?_
  k_steps
  k_with_none
  obtain ⟨ol, hol, hol2⟩ := id hl
  have hwl : wv.length = ps.length := by have := congrArg List.length hw; simpa using this
  rename_i o1 d1
  refine' compList (frz := []) (m := _) (Fr.lst F' hl) (.inl ⟨_, hol⟩) rfl (by rw [sizeLine_eq]; simp [strValues]; omega) (fun C i ys m₂ news₂ => Ex3 fun (rs : List (Addr × Obj)) (cw : Obj) (v₀ : Option Value) => C5 (ys = refsOf rs) (RowsAre IntsAre rs ((ps.take i).map colsOf)) (cw.data = .cell v₀) ((∀ q ∈ rs, C + 1 < q.1)) (news₂ = (C + 1, cw) :: (L' + 1, o1) :: rs)) (fun _ _ _ _ _ _ _ h => nomatch h) F' N' ?hJ ?turn ?done
  case hJ => exact fun C _ => ⟨[], _, none, rfl, .nil, rfl, (fun _ h => nomatch h), rfl⟩
  case turn =>
    rintro I C D oL oI i v ys cc mc₁ nw₁ h10 tk10 dc ld iD hj hv ⟨rs, cw, v₀, rfl, hrs, hcw, hrc, rfl⟩ hap F10 N10
    unfold CompTurn
    have iD' := ltN iD
    have ld' := ltN ld
    have dc' : @Eq Nat (D + 1) C := dc
    have hrc1 : ∀ q ∈ rs, q.1 ≠ C + 1 := fun q hq => Nat.ne_of_gt (hrc q hq)
    have hi : i < ps.length := by simpa [strValues, hwl] using hj
    obtain ⟨p, hpi⟩ : ∃ p, ps[i]? = some p := ⟨_, List.getElem?_eq_getElem hi⟩
    obtain ⟨tv, rfl⟩ : ∃ t, v = .str (wd p.1 p.2.1 p.2.2) t := by
      have e1 := congrArg (fun l => l[i]?) hw
      simp only [List.getElem?_map, hpi, Option.map_some] at e1
      obtain ⟨q, hq, eq⟩ := Option.map_eq_some_iff.mp e1
      refine ⟨q.2, ?_⟩
      simp only [strValues, List.getElem?_toArray, List.getElem?_map, hq, Option.map_some, Option.some.injEq] at hv
      rw [← hv, eq]
    k_with "stop" => (with_reducible show wpAny _ _ (tests _ _) _ _ _)
    k_steps
    refine tests_nil ?_
    rw [if_pos rfl]
    rename Fr _ _ _ _ => F11
    rename News _ _ _ _ => N11
    have hpp := hp p (List.mem_of_getElem? hpi)
    obtain ⟨kk, hkk⟩ : ∃ kk, p.2.2 = 97 + kk := ⟨p.2.2 - 97, by omega⟩
    have hcnt := cntT p.1 hpp.1 p.2.1 hpp.2.1 kk (by omega)
    rw [← hkk] at hcnt
    refine listComp_ (cl := [(Str.ofString "word", C + 1)]) rfl rfl (by decide) ?_
    k_steps
    rename Fr _ _ _ _ => F12
    rename News _ _ _ _ => N12
    rename IsRange _ _ _ _ _ _ _ _ => hr12
    rename Obj => cw'
    refine' compRange (news := (D, listOf (refsOf rs).toArray cc) :: (I, oI) :: (L', oL) :: (C + 1, cw') :: (L' + 1, o1) :: rs) (m := _) hr12 (by omega) (by omega) (by omega) rfl (fun C2 j ys m₂ news₂ => IntsAre ys ((colsOf p).take j) ∧ news₂ = (D, listOf (refsOf rs).toArray cc) :: (I, oI) :: (L', oL) :: (C + 1, cw') :: (L' + 1, o1) :: rs) F12 N12 ?hJ2 ?turn2 ?done2
    case hJ2 => exact fun C2 _ => ⟨.nil, rfl⟩
    case turn2 =>
      rintro I2 C2 D2 oL2 oI2 j tv2 ys2 cc2 mc₂ nw₂ h13 tk13 dc2 ld2 iD2 hj2 ⟨hys2, rfl⟩ hap2 F13 N13
      unfold CompTurn
      k_with "stop" => (first | (with_reducible show wpAny _ _ (tests _ _) _ _ _) | (with_reducible show wpAny _ _ (call (Value.builtin "str.count") _) _ _ _) | (with_reducible show wpAny _ _ (binaryOp .Mult _ _) _ _ _))
      k_steps
      refine tests_nil ?_
      rw [if_pos rfl]
      k_steps
      refine SC.count ?_
      rw [hcnt.1]
      k_steps
      refine mul_int ?_ (PySem.IntMulOk.of_left (PySem.intBits_le_64 (by omega) (by omega)))
      k_steps
      refine SC.count ?_
      rw [hcnt.2]
      k_steps
      rename Fr _ _ _ _ => F14
      rename News _ _ _ _ => N14
      refine ⟨_, _, _, _, rfl, F14, N14, hap2, ?_, rfl⟩
      have hj4 : j < 4 := by omega
      rw [List.take_add_one, cols_get hj4]
      rw [show (p.1 : Int) * (1 + (j : Int)) + (p.2.1 : Int) = ((p.1 * (1 + j) + p.2.1 : Nat) : Int) by push_cast; rfl]
      exact IntsAre.snoc hys2
    case done2 =>
      rintro C2 D2 ys2 cc2 mc₂ nw₂ h14 tk14 dc2 ld2 ⟨hys2, rfl⟩ hap2 F14 N14
      have ld2' := ltN ld2
      have hD2 : C + 1 ≠ D2 := hap2 (C + 1, cw') (.tail _ (.tail _ (.tail _ (.head _))))
      have hD2' := neN hD2
      refine ⟨_, _, _, (C + 1, cw') :: (L' + 1, o1) :: (rs ++ [(D2, listOf ys2.toArray cc2)]), rfl, F14, newsSub N14 ?_, ?_, rs ++ [(D2, listOf ys2.toArray cc2)], cw', _, refs_snoc', ?_, by assumption, ?_, rfl⟩
      · intro q hq
        simp only [List.mem_cons, List.mem_append, List.not_mem_nil, or_false] at hq ⊢
        rcases hq with rfl | rfl | rfl | rfl | rfl | hq | rfl <;> simp_all
      · intro q hq
        simp only [List.mem_cons, List.mem_append, List.not_mem_nil, or_false] at hq
        rcases hq with rfl | rfl | hq | rfl
        · exact hap (C + 1, cw) (.head _)
        · exact hap _ (.tail _ (.head _))
        · exact hap _ (.tail _ (.tail _ hq))
        · refine ⟨neN ?_, neN ?_, neN ?_⟩ <;> (dsimp only; omega)
      · have e : (ps.take (i + 1)).map colsOf = (ps.take i).map colsOf ++ [colsOf p] := by rw [List.take_add_one, hpi, List.map_append]; rfl
        rw [e]
        have e4 : (colsOf p).take (5 - 1 : Int).toNat = colsOf p := rfl
        rw [e4] at hys2
        exact hrs.snoc hys2
      · intro q hq
        rcases List.mem_append.mp hq with hq | hq
        · exact hrc q hq
        · rw [List.mem_singleton.mp hq]; exact ltN (by omega)
  case done =>
    rintro C D ys cc mc₁ nw₁ h10 tk10 dc ld ⟨rs, cw, v₀, rfl, hrs, hcw, hrc, rfl⟩ hap F10 N10
    have ld' := ltN ld
    have dc' : @Eq Nat (D + 1) C := dc
    have hz : (strValues wv).toArray.size = ps.length := by simp [strValues, hwl]
    rw [hz, List.take_length] at hrs
    replace N10 : News g L' h10 ((L' + 1, o1) :: (D, listOf (refsOf rs).toArray cc) :: rs) := newsSub N10 (fun q hq => by
      simp only [List.mem_cons] at hq ⊢
      rcases hq with rfl | rfl | hq <;> simp_all)
    have hrL : ∀ q ∈ rs, q.1 ≠ L' + 1 := fun q hq => Nat.ne_of_gt (Nat.lt_trans (Nat.succ_lt_succ (Nat.lt_trans (ltN ld') (by show @LT.lt Nat _ D C; omega))) (hrc q hq))
    have hD1 := neN (hap (L' + 1, o1) (.tail _ (.head _)))
    dsimp only at hD1
    clear hrc hcw hap
    k_with "stop" => (with_reducible show wpAny _ _ (eval (Expr.ListComp _ _ _ _) _) _ _ _)
    k_steps
    refine listComp_ (cl := [(Str.ofString "columns", L' + 1)]) rfl rfl (by decide) ?_
    k_steps
    k_with_none
    rename Fr _ _ _ _ => F11
    rename News _ _ _ _ => N11
    rename Obj => o2
    have hlc := isListN N11 (.tail _ (.head _))
    have hzr : (refsOf rs).toArray.size = ps.length := by rw [List.size_toArray, List.length_map, hrs.length, List.length_map]
    refine' compList (frz := [(D, listOf (refsOf rs).toArray cc)]) (m := _) hlc (.inr ⟨_, .head _⟩) rfl (by rw [hzr, sizeLine_eq]; omega) (fun C i ys m₂ news₂ => Ex3 fun (rs2 : List (Addr × Obj)) (cw : Obj) (v₀ : Option Value) => C6 (ys = refsOf rs2) (RowsAre BoolsAre rs2 ((ps.take i).map fun p => ps.map fun q => ahd p q)) (cw.data = .cell v₀) ((∀ q ∈ rs ++ rs2, q.1 ≠ C + 1)) (D < C) (news₂ = (C + 1, cw) :: (L' + 1, o2) :: (D, listOf (refsOf rs).toArray cc) :: (rs ++ rs2))) ?hfz F11 N11 ?hJ3 ?turn3 ?done3
    case hfz =>
      rintro C i ys m₁ news₁ ⟨_, _, _, _, _, _, _, _, rfl⟩ q hq
      rw [List.mem_singleton.mp hq]
      exact .tail _ (.tail _ (.head _))
    case hJ3 => exact fun C hC => ⟨[], _, none, rfl, .nil, rfl, fun q hq => Nat.ne_of_lt (Nat.lt_succ_of_lt (hC q (.tail _ (.tail _ (List.append_nil rs ▸ hq))))), hC _ (.tail _ (.head _)), by rw [List.append_nil]; rfl⟩
    case turn3 =>
      rintro I C Dq oL oI i v ys cc2 mc₁ nw₁ h12 tk12 dc2 ld2 iD2 hj hv ⟨rs2, cw, v₀, rfl, hrs2, hcw, hrc, hDC, rfl⟩ hap F12 N12
      unfold CompTurn
      have iD' := ltN iD2
      have ld'' := ltN ld2
      have dc'' : @Eq Nat (Dq + 1) C := dc2
      have hapD := neN (hap (D, listOf (refsOf rs).toArray cc) (.tail _ (.tail _ (.head _)))).1
      have hapD2 := neN (hap (D, listOf (refsOf rs).toArray cc) (.tail _ (.tail _ (.head _)))).2.1
      have hi : i < ps.length := by rw [hzr] at hj; exact hj
      obtain ⟨p, hpi⟩ : ∃ p, ps[i]? = some p := ⟨_, List.getElem?_eq_getElem hi⟩
      obtain ⟨a1, c1, vs1, hr1, hP1⟩ := hrs.get (i := i) (bs := colsOf p) (by rw [List.getElem?_map, hpi]; rfl)
      have hv1 : v = .ref a1 := by
        rw [List.getElem?_toArray, List.getElem?_map, hr1] at hv
        exact (Option.some.inj hv).symm
      subst hv1
      have hm1 := List.mem_of_getElem? hr1
      have hDC' := ltN hDC
      k_with "stop" => (first | (with_reducible show wpAny _ _ (tests _ _) _ _ _) | (with_reducible show wpAny _ _ (eval (Expr.ListComp _ _ _ _) _) _ _ _))
      k_steps
      refine tests_nil ?_
      rw [if_pos rfl]
      k_steps
      rename Fr _ _ _ _ => F13
      rename News _ _ _ _ => N13
      rename Obj => o3
      refine listComp_ (cl := [(Str.ofString "one", C + 1)]) rfl rfl (by decide) ?_
      k_steps
      have hlc3 := isListN N13 (l := D) (items := (refsOf rs).toArray) (c := cc) (by k_mem)
      refine' compList (frz := [(D, listOf (refsOf rs).toArray cc)]) (m := _) hlc3 (.inr ⟨_, .head _⟩) rfl (by rw [hzr, sizeLine_eq]; omega) (fun C2 j ys m₂ news₂ => Ex2 fun (cw2 : Obj) (v₁ : Option Value) => C6 (BoolsAre ys ((ps.take j).map fun q => ahd p q)) (cw2.data = .cell v₁) ((∀ q ∈ rs ++ rs2, q.1 ≠ C2 + 1)) (C + 1 < C2) (D < C2) (news₂ = (C2 + 1, cw2) :: (Dq, listOf (refsOf rs2).toArray cc2) :: (I, oI) :: (L', oL) :: (C + 1, o3) :: (L' + 1, o2) :: (D, listOf (refsOf rs).toArray cc) :: (rs ++ rs2))) ?hfz4 F13 N13 ?hJ4 ?turn4 ?done4
      case hfz4 =>
        rintro C2 j ys m₁ news₁ ⟨_, _, _, _, _, _, _, rfl⟩ q hq
        rw [List.mem_singleton.mp hq]
        k_mem
      case hJ4 => exact fun C2 hC => ⟨_, none, .nil, rfl, fun q hq => Nat.ne_of_lt (Nat.lt_succ_of_lt (hC q (.tail _ (.tail _ (.tail _ (.tail _ (.tail _ (.tail _ hq)))))))), hC (C + 1, o3) (by k_mem), hC (D, _) (by k_mem), rfl⟩
      case turn4 =>
        rintro I2 C2 D2 oL2 oI2 j v2 ys3 cc3 mc₂ nw₂ h14 tk14 dc3 ld3 iD3 hj2 hv2 ⟨cw2, v₁, hys3, hcw2, hrc2, hCC, hDC2, rfl⟩ hap2 F14 N14
        unfold CompTurn
        have iD3' := ltN iD3
        have ld3' := ltN ld3
        have dc3' : @Eq Nat (D2 + 1) C2 := dc3
        have hCC' := ltN hCC
        have hDC2' := ltN hDC2
        have hj3 : j < ps.length := by rw [hzr] at hj2; exact hj2
        obtain ⟨q, hqi⟩ : ∃ q, ps[j]? = some q := ⟨_, List.getElem?_eq_getElem hj3⟩
        obtain ⟨a2, c2, vs2, hr2, hP2⟩ := hrs.get (i := j) (bs := colsOf q) (by rw [List.getElem?_map, hqi]; rfl)
        have hvv2 : v2 = .ref a2 := by
          rw [List.getElem?_toArray, List.getElem?_map, hr2] at hv2
          exact (Option.some.inj hv2).symm
        subst hvv2
        have hm2 := List.mem_of_getElem? hr2
        k_with "stop" => (first | (with_reducible show wpAny _ _ (tests _ _) _ _ _) | (with_reducible show wpAny _ _ (eval (Expr.ListComp _ _ _ _) _) _ _ _))
        k_steps
        refine tests_nil ?_
        rw [if_pos rfl]
        k_steps
        rename Fr _ _ _ _ => F15
        rename News _ _ _ _ => N15
        rename Obj => o4
        refine listComp_ (cl := [(Str.ofString "other", C2 + 1), (Str.ofString "one", C + 1)]) rfl rfl (by decide) ?_
        k_steps
        rename Fr _ _ _ _ => F16
        rename News _ _ _ _ => N16
        rename IsRange _ _ _ _ _ _ _ _ => hr16
        have hol1 : ∃ L4, L4 = (D2, listOf ys3.toArray cc3) :: (I2, oI2) :: (C, oL2) :: (C2 + 1, o4) :: (Dq, listOf (refsOf rs2).toArray cc2) :: (I, oI) :: (L', oL) :: (C + 1, o3) :: (L' + 1, o2) :: (D, listOf (refsOf rs).toArray cc) :: (rs ++ rs2) := ⟨_, rfl⟩
        obtain ⟨L4, hL4⟩ := hol1
        rw [← hL4] at N16
        refine' compRange (m := _) hr16 (by omega) (by omega) (by omega) rfl (fun C3 k ys m₂ news₂ => BoolsAre ys ((List.range k).map (ltk p q)) ∧ news₂ = L4) F16 N16 ?hJ5 ?turn5 ?done5
        case hJ5 => exact fun C3 _ => ⟨.nil, rfl⟩
        case turn5 =>
          rintro I3 C3 D3 oL3 oI3 k tv3 ys4 cc4 mc₃ nw₃ h17 tk17 dc4 ld4 iD4 hk ⟨hys4, rfl⟩ hap3 F17 N17
          rw [Int.zero_add] at hk ⊢
          subst hL4
          unfold CompTurn
          k_with "stop" => (first | (with_reducible show wpAny _ _ (tests _ _) _ _ _) | (with_reducible show wpAny _ _ (subscriptTail _ _ _ _) _ _ _))
          k_steps
          refine tests_nil ?_
          rw [if_pos rfl]
          k_steps
          rename News _ _ _ _ => N18
          have hk4 : k < 4 := by omega
          obtain ⟨tg1, hg1⟩ := hP1.get k _ (cols_get hk4)
          obtain ⟨tg2, hg2⟩ := hP2.get k _ (cols_get hk4)
          refine itemN N18 (c := c1) (by k_mem) hg1 (by omega) ?_
          k_steps
          refine itemN N18 (c := c2) (by k_mem) hg2 (by omega) ?_
          refine lt_int ?_
          rename Fr _ _ _ _ => F18
          refine ⟨_, _, _, _, rfl, F18, N18, hap3, ?_, rfl⟩
          rw [List.range_succ, List.map_append]
          exact BoolsAre.snoc hys4
        case done5 =>
          rintro C3 D3 ys4 cc4 mc₃ nw₃ h17 tk17 dc4 ld4 ⟨hys4, rfl⟩ hap3 F17 N17
          k_with "stop" => (with_reducible show wpAny _ _ (call (Value.builtin "all") _) _ _ _)
          k_steps
          refine all_bools F17 N17 rfl (isListN N17 (.head _)) hys4 ?_
          intro h18 tk18 F18 N18
          subst hL4
          clear F17 N17 F16 N16
          refine ⟨_, _, _, _, rfl, F18, newsSub N18 (fun q hq => .tail _ hq), apSwap (P := fun a => a ≠ I2 ∧ a ≠ D2 ∧ a ≠ C) hap2, o4, _, ?_, by assumption, hrc2, hCC, hDC2, rfl⟩
          rw [List.take_add_one, hqi, List.map_append]
          exact BoolsAre.snoc hys3
      case done4 =>
        rintro C2 D2 ys3 cc3 mc₂ nw₂ h14 tk14 dc3 ld3 ⟨cw2, v₁, hys3, hcw2, hrc2, hCC, hDC2, rfl⟩ hap2 F14 N14
        have ld3' := ltN ld3
        have hD2 : C + 1 ≠ D2 := hap2 (C + 1, o3) (by k_mem)
        have hD2' := neN hD2
        refine ⟨_, _, _, (C + 1, o3) :: (L' + 1, o2) :: (D, listOf (refsOf rs).toArray cc) :: (rs ++ (rs2 ++ [(D2, listOf ys3.toArray cc3)])), rfl, F14, newsSub N14 ?_, ?_, rs2 ++ [(D2, listOf ys3.toArray cc3)], o3, _, refs_snoc', ?_, by assumption, ?_, hDC, rfl⟩
        · intro q hq
          simp only [List.mem_cons, List.mem_append, List.not_mem_nil, or_false] at hq ⊢
          rcases hq with rfl | rfl | rfl | rfl | rfl | rfl | hq | hq | rfl <;> simp_all
        · intro q hq
          simp only [List.mem_cons, List.mem_append, List.not_mem_nil, or_false] at hq
          rcases hq with rfl | rfl | rfl | hq | hq | rfl
          · exact hap (C + 1, cw) (.head _)
          · exact hap _ (.tail _ (.head _))
          · exact hap _ (.tail _ (.tail _ (.head _)))
          · exact hap _ (.tail _ (.tail _ (.tail _ (List.mem_append_left _ hq))))
          · exact hap _ (.tail _ (.tail _ (.tail _ (List.mem_append_right _ hq))))
          · refine ⟨neN ?_, neN ?_, neN ?_⟩ <;> (dsimp only; omega)
        · rw [List.take_add_one, hpi, List.map_append]
          rw [hzr, List.take_length] at hys3
          exact hrs2.snoc hys3
        · intro q hq
          rw [← List.append_assoc] at hq
          rcases List.mem_append.mp hq with hq | hq
          · exact hrc q hq
          · rw [List.mem_singleton.mp hq]; exact neN (Ne.symm hD2')
    case done3 =>
      rintro C Dq ys cc2 mc₁ nw₁ h12 tk12 dc2 ld2 ⟨rs2, cw, v₀, rfl, hrs2, hcw, hrc, hDC, rfl⟩ hap F12 N12
      rw [hzr, List.take_length] at hrs2
      k_steps
      exact hret Dq cc2 rs2 _ _ hrs2 (onOf F12 (newsSub N12 (fun q hq => by
        simp only [List.mem_cons, List.mem_append] at hq ⊢
        rcases hq with rfl | hq <;> simp_all)))
end
section
theorem rsLex3 : True := by w_top off; k_with_none; trivial
open PySem PySem.W PyProof.Rows PySem.Calls
theorem idx1 {n p : Nat} (hp : p ≤ n) : Builtin.Str.strSliceIndices (some (p : Int)) (some ((p : Int) + 1)) 1 n = if p < n then [p] else [] := by
  unfold Builtin.Str.strSliceIndices sliceRange
  simp only [show (1 : Int) > 0 by decide, if_true]
  rw [if_neg (show ¬ ((p : Int) < 0) by omega), if_neg (show ¬ ((p : Int) + 1 < 0) by omega)]
  have e1 : max 0 (min (p : Int) n) = p := by omega
  rw [e1]
  by_cases h : p < n
  · have e2 : max 0 (min ((p : Int) + 1) n) = p + 1 := by omega
    rw [e2, if_pos h, if_pos (by omega)]
    have e3 : (((p : Int) + 1 - p + 1 - 1) / 1).toNat = 1 := by omega
    rw [e3]
    simp
  · have e2 : max 0 (min ((p : Int) + 1) n) = p := by omega
    rw [e2, if_neg h, if_neg (by omega)]
    rfl
theorem slice1 {tx : Str} {p : Nat} (hp : p ≤ tx.cps.size) : Txt.slice tx (some (p : Int)) (some ((p : Int) + 1)) = sgAt tx p := by
  unfold Txt.slice sgAt
  rw [idx1 (show p ≤ tx.length from hp)]
  by_cases h : p < tx.length
  · rw [if_pos h]
    have h' : p < tx.cps.size := h
    rw [Array.getElem?_eq_getElem h']
    split
    · rename_i e
      simp at e
      obtain ⟨a⟩ := tx
      have ha : a.size = 1 := e.symm
      obtain rfl : p = 0 := by have : p < a.size := h'; omega
      show Str.mk a = Str.mk _
      congr 1
      apply Array.ext
      · simp [ha]
      · intro i h1 h2
        obtain rfl : i = 0 := by omega
        rfl
    · show Str.mk _ = Str.mk _
      congr 1
      simp [h']
  · rw [if_neg h]
    have h' : ¬ p < tx.cps.size := h
    rw [Array.getElem?_eq_none (by omega)]
    split
    · rename_i e
      simp at e
      obtain ⟨a⟩ := tx
      have ha : a.size = 0 := e.symm
      show Str.mk a = Str.mk _
      congr 1
      exact Array.eq_empty_of_size_eq_zero ha
    · rfl
theorem sgLen {tx : Str} {p : Nat} : (p : Int) + ((sgAt tx p).length : Int) = (nxAt tx p : Nat) := by
  unfold sgAt nxAt
  by_cases h : p < tx.cps.size
  · rw [Array.getElem?_eq_getElem h, if_pos h]; rfl
  · rw [Array.getElem?_eq_none (by omega), if_neg h]; show (p : Int) + 0 = p; omega
theorem m_dj {rest : List (Addr × Obj)} {a b : Addr × Obj} (h1 : ∀ p ∈ rest, p.1 ≠ a.1) (h2 : ∀ p ∈ rest, p.1 ≠ b.1) : ∀ p ∈ rest, ∀ q ∈ [a, b], p.1 ≠ q.1 := by
  intro p hp q hq
  rcases List.mem_cons.mp hq with rfl | hq
  · exact h1 p hp
  · rw [List.mem_singleton.mp hq]; exact h2 p hp
theorem Gr.making {w : World} {mean : ExcName → Option Value} {mg mb : Str → Option Value} {A : Around} {n : Nat} {g : Heap} {C : Addr} {pos : List Value} {kw : List (Str × Value)} (G : Gr w mean mg mb A (n + 1) g) : Gr w mean mg mb (A.under (.builtin "type.__call__" ⟨.ref C :: pos, kw⟩)) n g := by
  have e1 : Code.weight (.builtin "type.__call__" ⟨.ref C :: pos, kw⟩) = 1 := by first | rfl | kernel_rfl
  have e2 : Code.cUnits (.builtin "type.__call__" ⟨.ref C :: pos, kw⟩) = 1 := by first | rfl | kernel_rfl
  refine ⟨G.X, G.T, G.hh, ?_, ?_⟩
  · have := G.room
    show A.depth + Code.weight _ + n < _
    omega
  · have := G.units
    show A.units + Code.cUnits _ + 10 * n < _
    omega
theorem lexNew {w : World} {mean : ExcName → Option Value} {mg mb : Str → Option Value} {A : Around} {g : Heap} {s : Shared} {R : Result → Shared → Prop}
  {tx : Str} {tt : Tok} {z : Addr} {oz : Obj} (h8z : 158 < z) (O : On g s.heap [(158, tabObj #[]), (z, oz)]) (G : Gr w mean mg mb A 6 g) (C : CodeHd g 162 158) (hts : tx.length ≤ 10000)
  (hret : ∀ h' tk' x dx st la pb es t0 imm pz, LxEs w.params 1 st pb es → dx ≠ la → dx ≠ pb → la ≠ pb → z < dx ∧ z < la ∧ z < pb → On g h' ((158, tabObj pz) :: (dx, dictOf es 4) :: (la, listOf #[.int (0 : Nat) t0] 0) :: (pb, listOf #[] 0) :: (z, oz) :: imm) →
    (∀ q ∈ imm, z < q.1 ∧ q.1 ≠ dx ∧ q.1 ≠ la ∧ q.1 ≠ pb) → (x, instObj 86 dx) ∈ imm → (∀ g', (∀ q ∈ imm, g'.get? q.1 = some q.2) → LexAt w g' x dx st la tx) → R (.ok (.ret (.ref x))) { s with heap := h', toks := tk' }) :
  codeAny (model VW w) A (.call (.ref 163) ⟨[.str tx tt], []⟩) R s := by
  obtain ⟨hdl, dp, fr, gd, un⟩ := A
  obtain rfl : hdl = none := G.hh
  have dk' : Deep := ⟨⟩
  refine' enterC (binds := [(Str.ofString "text", .str tx tt)]) O G ?k6 ?k7 ?k9 ?kB ?kn ?_ ?c2 ?c3 ?c4
  case k6 => k_is
  case k7 => k_is
  case k9 => exact BindsTo.of_eq rfl
  case kB => exact rfl
  case kn => decide
  case c2 => exact rfl
  case c3 => exact rfl
  case c4 => exact rfl
  intro L' h' tk' cells F' N' Y' l1 X' T' G'
  (try dsimp only)
  k_cells Y'
  k_lt l1
  have hzL := l1
  have h8z' := ltN h8z
  dsimp only [List.cons_append, List.nil_append] at N'
  k_with "nolet" => skip
  k_with "stop" => (with_reducible show wpAny _ _ (setAttr _ _ _) _ _ _)
  k_steps
  k_with_none
  k_with "nolet" => skip
  rename Fr _ _ _ _ => F1
  rename News _ _ _ _ => N1
  refine' fnSetOn F1 N1 ?U ?_
  case U => k_updF
  intro h2 dd od tk2 F2 N2 hrd ldd
  clear F1 N1
  (try dsimp only at N2)
  k_lt ldd
  k_steps
  refine' call_cls F2 X' N2 ?m1 ?m2 ?m3 ?_
  case m1 => k_is
  case m2 => k_is
  case m3 => k_is
  intro x dx h3 F3 N3 ldx lxx
  k_lt ldx
  k_lt2 lxx
  refine codeOn F3 N3 [(x, instObj 86 dx), (dx, dictOf [] 0)] _ (List.forall_mem_cons.mpr ⟨.head _, List.forall_mem_cons.mpr ⟨.tail _ (.head _), List.forall_mem_nil _⟩⟩) (fun q hq => .tail _ (.tail _ hq)) ?dj (fun g' st' sz' O' hg' hk' => ?_)
  case dj =>
    refine m_dj ?_ ?_
    · exact List.forall_mem_cons.mpr ⟨by k_ne, List.forall_mem_cons.mpr ⟨by k_ne, List.forall_mem_cons.mpr ⟨by k_ne, List.forall_mem_cons.mpr ⟨by k_ne, List.forall_mem_cons.mpr ⟨by k_ne, List.forall_mem_cons.mpr ⟨by k_ne, List.forall_mem_cons.mpr ⟨by k_ne, List.forall_mem_cons.mpr ⟨by k_ne, List.forall_mem_cons.mpr ⟨by k_ne, List.forall_mem_cons.mpr ⟨by k_ne, List.forall_mem_nil _⟩⟩⟩⟩⟩⟩⟩⟩⟩⟩
    · exact List.forall_mem_cons.mpr ⟨by k_ne, List.forall_mem_cons.mpr ⟨by k_ne, List.forall_mem_cons.mpr ⟨by k_ne, List.forall_mem_cons.mpr ⟨by k_ne, List.forall_mem_cons.mpr ⟨by k_ne, List.forall_mem_cons.mpr ⟨by k_ne, List.forall_mem_cons.mpr ⟨by k_ne, List.forall_mem_cons.mpr ⟨by k_ne, List.forall_mem_cons.mpr ⟨by k_ne, List.forall_mem_cons.mpr ⟨by k_ne, List.forall_mem_nil _⟩⟩⟩⟩⟩⟩⟩⟩⟩⟩
  refine lexInit lxx O' ((G'.making.keeps st').le (by omega)) ?_
  intro h4 tk4 es4 pb hes4 lpb O4
  refine ⟨_, h4, tk4, _, rfl, rfl, O4, fun F4 N4 => ?_⟩
  refine ⟨rfl, ?_⟩
  dsimp only [List.cons_append, List.nil_append] at N4
  clear F3 N3 O4 O' hg' hk' st' sz' F2 N2
  rename_i o1 o2 d1 d2 la _ ll _ oat _ _ dat _ rf cfr ocfr vsfr tfr ctfr dcfr _ _ _ _ dfr1 dfr2 lfr1 lfr2 _ _ st cst ocst vsst tst ctst _ _ _ _ dst1 dst2 lst1 lst2 _ _
  dsimp only
  refine' hret _ _ x dx st la pb es4 _ ((x, instObj 86 dx) :: (dd, od) :: (st, _) :: (rf, _) :: (cfr, ocfr) :: (L' + 1 + 1, oat) :: (L' + 1, o2) :: []) _ hes4 ?n1 ?n2 ?n3 ⟨?z1, ?z2, ?z3⟩ (onOf F4 (newsSub N4 ?sub)) ?dis (.head _) ?lx
  case sub => exact List.forall_mem_cons.mpr ⟨by k_mem, List.forall_mem_cons.mpr ⟨by k_mem, List.forall_mem_cons.mpr ⟨by k_mem, List.forall_mem_cons.mpr ⟨by k_mem, List.forall_mem_cons.mpr ⟨by k_mem, List.forall_mem_cons.mpr ⟨by k_mem, List.forall_mem_cons.mpr ⟨by k_mem, List.forall_mem_cons.mpr ⟨by k_mem, List.forall_mem_cons.mpr ⟨by k_mem, List.forall_mem_cons.mpr ⟨by k_mem, List.forall_mem_cons.mpr ⟨by k_mem, List.forall_mem_cons.mpr ⟨by k_mem, List.forall_mem_nil _⟩⟩⟩⟩⟩⟩⟩⟩⟩⟩⟩⟩
  case n1 => k_ne
  case n2 => have := ltN lpb; k_ne
  case n3 => have := ltN lpb; k_ne
  case z1 => exact ltN (by omega)
  case z2 => exact ltN (by omega)
  case z3 => have := ltN lpb; exact ltN (by omega)
  case dis =>
    have := ltN lpb
    exact List.forall_mem_cons.mpr ⟨⟨ltN (by dsimp only; omega), by k_ne, by k_ne, by k_ne⟩, List.forall_mem_cons.mpr ⟨⟨ltN (by dsimp only; omega), by k_ne, by k_ne, by k_ne⟩, List.forall_mem_cons.mpr ⟨⟨ltN (by dsimp only; omega), by k_ne, by k_ne, by k_ne⟩, List.forall_mem_cons.mpr ⟨⟨ltN (by dsimp only; omega), by k_ne, by k_ne, by k_ne⟩, List.forall_mem_cons.mpr ⟨⟨ltN (by dsimp only; omega), by k_ne, by k_ne, by k_ne⟩, List.forall_mem_cons.mpr ⟨⟨ltN (by dsimp only; omega), by k_ne, by k_ne, by k_ne⟩, List.forall_mem_cons.mpr ⟨⟨ltN (by dsimp only; omega), by k_ne, by k_ne, by k_ne⟩, List.forall_mem_nil _⟩⟩⟩⟩⟩⟩⟩
  case lx =>
    intro g' hg'
    refine ⟨hg' (x, _) (.head _), dd, od, rf, _, hg' (st, _) (.tail _ (.tail _ (.head _))), hg' (dd, od) (.tail _ (.head _)), hrd, ⟨_, _, _, _, hg' (rf, _) (.tail _ (.tail _ (.tail _ (.head _))))⟩, ?_⟩
    intro g2 k2 s2 mean2 mg2 mb2 A2 s' R2 c p t t1 O2 G2 hp2 hret2
    obtain ⟨hdl2, dp2, fr2, gd2, un2⟩ := A2
    obtain rfl : hdl2 = none := G2.hh
    have hrf := k2 _ _ (hg' (rf, _) (.tail _ (.tail _ (.tail _ (.head _)))))
    have hcf := k2 _ _ (hg' (cfr, _) (.tail _ (.tail _ (.tail _ (.tail _ (.head _))))))
    have hca : g2.IsCell (L' + 1 + 1) (some (.ref la)) := ⟨_, k2 _ _ (hg' (L' + 1 + 1, _) (.tail _ (.tail _ (.tail _ (.tail _ (.tail _ (.head _))))))), dat⟩
    have hct : g2.IsCell (L' + 1) (some (.str tx tt)) := ⟨_, k2 _ _ (hg' (L' + 1, _) (.tail _ (.tail _ (.tail _ (.tail _ (.tail _ (.tail _ (.head _)))))))), d2⟩
    clear hret F4 N4 hg' O G G'
    refine' enterOn (binds := [(Str.ofString "size", .int 1 t1)]) O2 G2 (O2.keep _ _ hrf) rfl ⟨cfr, ocfr, vsfr, tfr, rfl, O2.keep _ _ hcf, dfr1, dfr2⟩ ?k9 ?kB ?_ ?c5 ?c2 ?c3 ?c4
    case k9 => exact BindsTo.of_eq rfl
    case c5 => decide
    case kB => exact locs rfl
    case c2 => exact rfl
    case c3 => exact rfl
    case c4 => exact rfl
    intro L2 h6 F6 N6 l6 G6
    (try dsimp only)
    k_lt l6
    have X6 := G6.X
    have T6 := G6.T
    k_steps
    rename Fr _ _ _ _ => F7
    rename News _ _ _ _ => N7
    have e0 : [(p : Int)].getD (Int.toNat 0) 0 = p := rfl
    rw [e0, slice1 hp2, sgLen] at N7
    rw [e0, slice1 hp2]
    exact hret2 _ _ _ _ (onOf F7 N7)
end
section
theorem rsLd : True := by w_top off; k_with_none; trivial
open PySem PySem.W PyProof.Rows PySem.Calls PyProof.Rows.LSm
def defOf : Stmt → List Stmt × Scope
  | .FunctionDef (body := b) (scope := sc) .. => (b, sc)
  | _ => ([], { kind := .module, names := [], isGenerator := false, isCoroutine := false })
def lawD : List Stmt × Scope := match Challenge.pw_pe0240_01.main.body.reverse with
  | d :: _ => defOf d
  | [] => ([], { kind := .module, names := [], isGenerator := false, isCoroutine := false })
abbrev lawE (fa : Addr) (sc : Scope) (L : Addr) : Env := envOfC (Str.ofString "law") sc L fa (.ref 189)
def AllNe (d : Addr) : List (Addr × Obj) → Prop
  | [] => True
  | p :: r => @Ne Nat p.1 d ∧ AllNe d r
theorem allNe_of {d : Addr} {l : List (Addr × Obj)} (h : ∀ p ∈ l, p.1 ≠ d) : AllNe d l := by
  induction l with
  | nil => trivial
  | cons p l ih => exact ⟨h p (.head _), ih fun q hq => h q (.tail _ hq)⟩
theorem allNe_ne {d : Addr} {l : List (Addr × Obj)} (h : AllNe d l) : ∀ p ∈ l, p.1 ≠ d := by
  induction l with
  | nil => intro q hq; cases hq
  | cons p l ih =>
    intro q hq
    rw [AllNe] at h
    cases hq with
    | head => exact h.1
    | tail _ hq => exact ih h.2 q hq
theorem djOf {g h : Heap} {used rest : List (Addr × Obj)} (O : On g h used) (hg : ∀ p ∈ rest, g.get? p.1 = some p.2) : ∀ q ∈ used, ∀ p ∈ rest, p.1 ≠ q.1 := fun q hq p hp e => by
  have h1 := (O.nw q hq).2
  have h2 := hg p hp
  rw [e, h1] at h2
  cases h2
/-- an object of the ledger goes over into the ground -/
theorem rebase {g h : Heap} {L P : Addr} {m : Str → Option Value} {o : Obj} (F : Fr g L h m) (hP : h.get? P = some o ∧ P ≠ L ∧ g.get? P = none) (hz : P < g.objs.size) (ho : o.isFreed = false) :
    ∃ g', g.StaysIn g' ∧ g'.objs.size = g.objs.size ∧ g'.get? P = some o ∧ Fr g' L h m ∧ ∀ news, News g L h news → (∀ p ∈ news, p.1 ≠ P) → News g' L h news := by
  have hs := Heap.SameBut.update g P fun _ => o
  have hp : (g.update P fun _ => o).get? P = some o := by
    refine Heap.get?_some_iff.mpr ⟨?_, ho⟩
    cases g
    simp only [Heap.update, Array.getElem?_modify, if_true]
    rw [Array.getElem?_eq_getElem hz]; rfl
  refine ⟨_, fun b ob e => (hs.2 b fun q => ?_).trans e, hs.1, hp, ⟨F.ns, fun b ob e => ?_, Nat.le_trans (Nat.le_of_eq hs.1) F.above⟩, fun news N hn p hp' => ⟨(N p hp').1, (N p hp').2.1, (hs.2 _ (hn p hp')).trans (N p hp').2.2⟩⟩
  · rw [q, hP.2.2] at e; cases e
  · by_cases q : b = P
    · subst q
      rw [hp] at e
      rw [hP.1, e]
    · exact F.keep _ _ ((hs.2 b q).symm.trans e)
/-- what stands between the law's stages: the lexer, the words, the tables of code -/
structure LawS (w : World) (L x dx sr la pb lw : Nat) (tx : Str) (imm : List (Addr × Obj)) : Prop where
  lex : ∀ g', (∀ q ∈ imm, g'.get? q.1 = some q.2) → LexAt w g' x dx sr la tx
  h1 : @LT.lt Nat _ 187 L
  h2 : @LT.lt Nat _ (L + 7) lw
  h3 : @LT.lt Nat _ lw dx
  h4 : @LT.lt Nat _ lw la
  h5 : @LT.lt Nat _ lw pb
  h6 : @Ne Nat dx la
  h7 : @Ne Nat dx pb
  h8 : @Ne Nat la pb
  hx : (x, instObj 86 dx) ∈ imm
  h9 : ∀ q ∈ imm, @LT.lt Nat _ lw q.1 ∧ q.1 ≠ dx ∧ q.1 ≠ la ∧ q.1 ≠ pb
theorem memAt {a : Addr × Obj} {l : List (Addr × Obj)} (i : Nat) (h : some a = l[i]?) : a ∈ l := List.mem_of_getElem? h.symm
theorem memDrop {a : Addr × Obj} {l : List (Addr × Obj)} (i : Nat) (h : a ∈ l.drop i) : a ∈ l := List.mem_of_mem_drop h
theorem LawS.lit {w : World} {L x dx sr la pb lw : Nat} {tx : Str} {imm : List (Addr × Obj)} (W : LawS w L x dx sr la pb lw tx imm) : LitF L lw dx la pb := litOf W.h1 W.h2 W.h3 W.h4 W.h5
theorem instNN {g h : Heap} {L x C d : Addr} {od : Obj} {news : List (Addr × Obj)} (N : News g L h news) (h1 : (x, instObj C d) ∈ news) (h2 : (d, od) ∈ news) : InstAt h x (instObj C d) C (some od) :=
  ⟨(N _ h1).1, rfl, rfl, (N _ h2).1⟩
end
section
theorem rsPx : True := by w_top off; k_with_none; trivial
open PySem PySem.W PyProof.Rows PySem.Calls
theorem txl_split (X : List Nat) {i : Nat} : ∀ {n : Nat}, i < n → ∃ r, txl X n = txl X i ++ (enc i (X.getD i 0) ++ r)
  | 0, h => absurd h (Nat.not_lt_zero _)
  | n + 1, h => by
    by_cases e : i = n
    · subst e
      exact ⟨[], by rw [List.append_nil]; rfl⟩
    · obtain ⟨r, hr⟩ := txl_split X (i := i) (n := n) (by omega)
      refine ⟨r ++ enc n (X.getD n 0), ?_⟩
      show txl X n ++ enc n (X.getD n 0) = _
      rw [hr, List.append_assoc, List.append_assoc]
theorem st_get (l : List Nat) (i : Nat) : (st l).cps[i]? = l[i]? := by show l.toArray[i]? = _; simp
theorem mid_get (a b c : List Nat) {j : Nat} (hj : j < b.length) : (a ++ (b ++ c))[a.length + j]? = b[j]? := by
  rw [List.getElem?_append_right (Nat.le_add_right _ _), Nat.add_sub_cancel_left, List.getElem?_append_left hj]
theorem escGet : ∀ (l : List Nat) (r : List Nat) (j : Nat), j < l.length → (l.flatMap (fun c => [92, c]) ++ r)[2 * j]? = some 92 ∧ (l.flatMap (fun c => [92, c]) ++ r)[2 * j + 1]? = l[j]?
  | [], _, j, h => absurd h (Nat.not_lt_zero _)
  | a :: l, r, 0, _ => ⟨rfl, rfl⟩
  | a :: l, r, j + 1, h => by
    have := escGet l r j (Nat.lt_of_succ_lt_succ h)
    rw [show 2 * (j + 1) = 2 * j + 1 + 1 by omega, List.flatMap_cons]
    exact this
theorem wl_mem {k y : Nat} : ∀ c ∈ wl k y, c = 9 ∨ c = 32 ∨ c = 97 + k := by
  intro c hc
  unfold wl at hc
  rcases List.mem_append.mp hc with hc | hc
  · rcases List.mem_append.mp hc with hc | hc
    · exact .inl (List.mem_replicate.mp hc).2
    · exact .inr (.inl (List.mem_replicate.mp hc).2)
  · exact .inr (.inr (List.mem_singleton.mp hc))
theorem lexStep {X : List Nat} {n i p nl : Nat} (hi : i < n) (hp : p + nl = (txl X i).length) :
    ∃ p' dl nl', LexTo (st (txl X n)) (p + nl) (wl i (X.getD i 0)) p' dl ∧ p' + nl' = (txl X (i + 1)).length ∧ (nl' = 0 ∨ nl' = 1 ∧ (st (txl X n)).cps[p']? = some 10) ∧ dl + nl' = 1 := by
  obtain ⟨r, hr⟩ := txl_split X hi
  have hlen : (txl X (i + 1)).length = (txl X i).length + (enc i (X.getD i 0)).length := by
    show (txl X i ++ enc i (X.getD i 0)).length = _
    rw [List.length_append]
  have get : ∀ j, j < (enc i (X.getD i 0)).length → (st (txl X n)).cps[p + nl + j]? = (enc i (X.getD i 0))[j]? := fun j hj => by
    rw [st_get, hr, hp]; exact mid_get _ _ _ hj
  rw [hlen, ← hp]
  generalize X.getD i 0 = y at get
  unfold enc at get ⊢
  by_cases hy : y < 12
  · rw [if_pos hy] at get ⊢
    have el : (34 :: wl i y ++ [34, 10]).length = (wl i y).length + 3 := by simp
    rw [el] at get ⊢
    refine ⟨_, 0, 1, LexTo.quo (wl i y) ?_ ?_ ?_ ?_, by omega, .inr ⟨rfl, ?_⟩, rfl⟩
    · have := get 0 (by omega)
      exact this
    · intro j hj
      have := get (1 + j) (by omega)
      rw [show p + nl + 1 + j = p + nl + (1 + j) by omega, this, Nat.add_comm 1 j]
      show (wl i y ++ [34, 10])[j]? = _
      exact List.getElem?_append_left hj
    · intro c hc
      rcases wl_mem c hc with h | h | h <;> omega
    · have := get (1 + (wl i y).length) (by omega)
      rw [show p + nl + 1 + (wl i y).length = p + nl + (1 + (wl i y).length) by omega, this, Nat.add_comm 1]
      show (wl i y ++ [34, 10])[(wl i y).length]? = _
      rw [List.getElem?_append_right (Nat.le_refl _), Nat.sub_self]; rfl
    · have := get ((wl i y).length + 2) (by omega)
      rw [show p + nl + (wl i y).length + 2 = p + nl + ((wl i y).length + 2) by omega, this]
      show (wl i y ++ [34, 10])[(wl i y).length + 1]? = _
      rw [List.getElem?_append_right (by omega), Nat.add_sub_cancel_left]; rfl
  · rw [if_neg hy] at get ⊢
    have el : ((wl i y).flatMap (fun c => [92, c]) ++ [10]).length = 2 * (wl i y).length + 1 := by rw [List.length_append, escLen]; rfl
    rw [el] at get ⊢
    refine ⟨_, 1, 0, LexTo.esc (wl i y) ?_ ?_ ?_ ?_, by omega, .inl rfl, rfl⟩
    · intro h
      unfold wl at h
      simp at h
    · intro j hj
      have h1 := get (2 * j) (by omega)
      have h2 := get (2 * j + 1) (by omega)
      have h3 := escGet (wl i y) [10] j hj
      exact ⟨h1.trans h3.1, h2.trans h3.2⟩
    · intro c hc
      rcases wl_mem c hc with h | h | h <;> omega
    · have := get (2 * (wl i y).length) (by omega)
      rw [this, List.getElem?_append_right (by rw [escLen]; exact Nat.le_refl _), escLen, Nat.sub_self]; rfl
theorem lexEnd {X : List Nat} {n p nl : Nat} (hp : p + nl = (txl X n).length) : LexTo (st (txl X n)) (p + nl) [] (p + nl) 0 := by
  refine LexTo.eof ?_
  rw [st_get, hp]
  exact List.getElem?_eq_none (Nat.le_refl _)
end
section
theorem rsNe : True := by w_top off; k_with_none; trivial
open PySem PySem.W PyProof.Rows PySem.Calls
theorem datStrs {news : List (Addr × Obj)} : ∀ (l : List (Str × Tok)), DatAll news (strValues l) (l.map fun p => Dat.str p.1)
  | [] => .nil
  | p :: l => .cons (.str p.1 p.2) (datStrs l)
open Classical in
theorem neStrs {prog : Program} {w : World} {A : Around} {E : Value → Shared → Prop} {s : Shared} {h₀ : Heap} {L a b : Addr} {news : List (Addr × Obj)} {l1 l2 : List (Str × Tok)} {c1 c2 : Nat} {Q : Value → Shared → Prop}
    (N : News h₀ L s.heap news) (ha : (a, listOf (strValues l1).toArray c1) ∈ news) (hb : (b, listOf (strValues l2).toArray c2) ∈ news) (he : l1.map (·.1) = l2.map (·.1)) (hok : ∀ x ∈ l1.map (·.1), PyData.strOk x = true)
    (hu : A.units + 64 < cLine) (h : Q (.bool false) s) : wpAny (model prog w) A (compareOp .NotEq (.ref a) (.ref b)) Q E s := by
  have e : (l1.map fun p => Dat.str p.1) = l2.map fun p => Dat.str p.1 := by
    have := congrArg (List.map Dat.str) he
    rw [List.map_map, List.map_map] at this
    exact this
  have ok1 : ∀ d ∈ (l1.map fun p => Dat.str p.1), kqdOk 8 d = true := by
    intro d hd
    obtain ⟨p, hp, rfl⟩ := List.mem_map.mp hd
    exact hok _ (List.mem_map_of_mem hp)
  refine kqd_ne (n₁ := []) (n₂ := []) N ha rfl rfl (datStrs l1) (fun _ h => nomatch h) hb rfl rfl (datStrs l2) (fun _ h => nomatch h) ok1 (by rw [← e]; exact ok1) hu ?_
  rw [decide_eq_true e]
  exact h
theorem st_ok {l : List Nat} (h : ∀ c ∈ l, c < 1114112) : PyData.strOk (st l) = true := by
  unfold PyData.strOk
  show l.toArray.all _ = true
  rw [List.all_toArray, List.all_eq_true]
  exact fun c hc => decide_eq_true (h c hc)
theorem wl_ok {k y : Nat} (hk : k < 6) : PyData.strOk (st (wl k y)) = true := st_ok fun c hc => by
  rcases wl_mem c hc with h | h | h <;> omega
theorem wds_ok {X : List Nat} {n : Nat} (hn : n ≤ 6) : ∀ x ∈ wds X n, PyData.strOk x = true := by
  intro x hx
  unfold wds at hx
  obtain ⟨k, hk, rfl⟩ := List.mem_map.mp hx
  exact wl_ok (by have := List.mem_range.mp hk; omega)
end
section
theorem rsMk : True := by w_top off; k_with_none; trivial
open PySem PySem.W PyProof.Rows PySem.Calls
theorem st1_inj {a b : Nat} : st [a] = st [b] ↔ a = b := by
  refine ⟨fun e => ?_, fun e => by rw [e]⟩
  exact Option.some.inj (congrArg (fun s : Str => s.cps.toList.head?) e)
theorem va_get : ∀ (kvs : List (Str × Value)) (o : Nat), (∀ j p, kvs[j]? = some p → p.1 = st [o + j]) → ∀ k, valueAt kvs (st [o + k]) = (kvs[k]?).map (·.2)
  | [], _, _, k => rfl
  | (key, v) :: r, o, h, k => by
    have h0 : key = st [o] := h 0 _ rfl
    unfold valueAt
    rw [List.find?_cons]
    cases k with
    | zero =>
      rw [h0]; simp
    | succ k =>
      have hne : ¬ key = st [o + (k + 1)] := by rw [h0, st1_inj]; omega
      have e : (decide ((key, v).1 = st [o + (k + 1)])) = false := decide_eq_false hne
      rw [e]
      have := va_get r (o + 1) (fun j p hj => by rw [show o + 1 + j = o + (j + 1) by omega]; exact h (j + 1) p hj) k
      rw [show o + 1 + k = o + (k + 1) by omega] at this
      exact this
/-- the marks of the first i words, with the objects that they are -/
def MkL (w : World) (X : List Nat) (i : Nat) (kvs : List (Str × Value)) (ob : List (Addr × Obj)) : Prop :=
  kvs.length = i ∧ ∀ k, k < i → ∃ a d es, kvs[k]? = some (st [97 + k], .ref a) ∧ (a, instObj 152 d) ∈ ob ∧ (d, dictOf es 5) ∈ ob ∧ WsEs w.params (X.getD k 0 % 3 + X.getD k 0 / 3 % 4) (X.getD k 0 % 3) es
theorem MkL.keys {w : World} {X : List Nat} {i : Nat} {kvs : List (Str × Value)} {ob : List (Addr × Obj)} (h : MkL w X i kvs ob) : ∀ j p, kvs[j]? = some p → p.1 = st [97 + j] := by
  intro j p hj
  have hlt : j < i := by
    have := (List.getElem?_eq_some_iff.mp hj).1
    rw [← h.1]; exact this
  obtain ⟨a, d, es, e, _⟩ := h.2 j hlt
  rw [hj] at e
  rw [Option.some.inj e]
theorem MkL.snoc {w : World} {X : List Nat} {i : Nat} {kvs : List (Str × Value)} {ob : List (Addr × Obj)} {a d : Addr} {es : List DictEntry} (h : MkL w X i kvs ob) (he : WsEs w.params (X.getD i 0 % 3 + X.getD i 0 / 3 % 4) (X.getD i 0 % 3) es) :
    MkL w X (i + 1) (stored kvs (st [97 + i]) (.ref a)) ((a, instObj 152 d) :: (d, dictOf es 5) :: ob) := by
  have hn : valueAt kvs (st [97 + i]) = none := by
    rw [va_get kvs 97 h.keys i, List.getElem?_eq_none (by rw [h.1]; exact Nat.le_refl _)]; rfl
  rw [stored_absent hn]
  refine ⟨by rw [List.length_append, h.1]; rfl, fun k hk => ?_⟩
  by_cases hki : k < i
  · obtain ⟨a', d', es', e1, e2, e3, e4⟩ := h.2 k hki
    exact ⟨a', d', es', by rw [List.getElem?_append_left (by rw [h.1]; exact hki)]; exact e1, .tail _ (.tail _ e2), .tail _ (.tail _ e3), e4⟩
  · have : k = i := by omega
    subst this
    exact ⟨a, d, es, by rw [List.getElem?_append_right (by rw [h.1]; exact Nat.le_refl _), h.1, Nat.sub_self]; rfl, .head _, .tail _ (.head _), he⟩
theorem MkL.at {w : World} {X : List Nat} {kvs : List (Str × Value)} {ob : List (Addr × Obj)} {oD : Obj} {md : Addr} {g : Heap} (h : MkL w X X.length kvs ob) (hD : oD.IsDictOf (strKind VW w) kvs) (hm : g.get? md = some oD) (hg : ∀ q ∈ ob, g.get? q.1 = some q.2) : MkAt w g md X := by
  refine ⟨kvs, Heap.dictOf_iff.mpr ⟨oD, hm, hD⟩, fun k hk => ?_⟩
  obtain ⟨a, d, es, e1, e2, e3, e4⟩ := h.2 k hk
  exact ⟨a, by rw [va_get kvs 97 h.keys k, e1]; rfl, d, es, hg _ e2, hg _ e3, e4⟩
end
section
theorem rsIr : True := by w_top off; k_with_none; trivial
open PySem PySem.W PyProof.Rows PySem.Calls
def tOf (X : List Nat) (k : Nat) : Nat := X.getD k 0 % 3
/-- a word's key, as one number -/
def kv (X : List Nat) (k : Nat) : Nat := tOf X k * 16 + nOf X k
/-- the row behind i words -/
def insRow (X : List Nat) : Nat → List Nat
  | 0 => []
  | i + 1 => (insRow X i).take (plc false (kv X) (insRow X i) (kv X i)) ++ i :: (insRow X i).drop (plc false (kv X) (insRow X i) (kv X i))
theorem nOf_le (X : List Nat) (k : Nat) : nOf X k ≤ 5 := by unfold nOf; omega
theorem insRow_len (X : List Nat) : ∀ i, (insRow X i).length = i
  | 0 => rfl
  | i + 1 => by
    have := insRow_len X i
    have h2 : plc false (kv X) (insRow X i) (kv X i) ≤ (insRow X i).length := plc_le
    unfold insRow
    rw [List.length_append, List.length_cons, List.length_take, List.length_drop]; omega
theorem insRow_lt (X : List Nat) : ∀ i, ∀ k ∈ insRow X i, k < i
  | 0, _, h => nomatch h
  | i + 1, k, h => by
    unfold insRow at h
    rcases List.mem_append.mp h with h | h
    · exact Nat.lt_succ_of_lt (insRow_lt X i k (List.mem_of_mem_take h))
    · rcases List.mem_cons.mp h with rfl | h
      · exact Nat.lt_succ_self _
      · exact Nat.lt_succ_of_lt (insRow_lt X i k (List.mem_of_mem_drop h))
theorem pw_ins {v : Nat → Nat} {sd : List Nat} {r k : Nat} (hs : sd.Pairwise (fun a c => v a ≤ v c)) (hr : r ≤ sd.length) (h1 : ∀ i, i < r → i < sd.length → v (sd.getD i 0) ≤ v k) (h2 : ∀ i, r ≤ i → i < sd.length → v k ≤ v (sd.getD i 0)) : (sd.take r ++ k :: sd.drop r).Pairwise (fun a c => v a ≤ v c) := by
  have hx : (sd.take r ++ sd.drop r).Pairwise (fun a c => v a ≤ v c) := by rw [List.take_append_drop]; exact hs
  rw [List.pairwise_append] at hx ⊢
  have gd : ∀ n (hn : n < sd.length), sd.getD n 0 = sd[n] := fun n hn => by rw [List.getD_eq_getElem?_getD, List.getElem?_eq_getElem hn]; rfl
  have ht : ∀ a ∈ sd.take r, v a ≤ v k := fun a ha => by
    obtain ⟨i, hi, rfl⟩ := List.getElem_of_mem ha
    rw [List.length_take] at hi
    have := h1 i (by omega) (by omega)
    rw [gd i (by omega)] at this
    rw [List.getElem_take]; exact this
  have hd : ∀ a ∈ sd.drop r, v k ≤ v a := fun a ha => by
    obtain ⟨i, hi, rfl⟩ := List.getElem_of_mem ha
    rw [List.length_drop] at hi
    have := h2 (r + i) (by omega) (by omega)
    rw [gd (r + i) (by omega)] at this
    rw [List.getElem_drop]; exact this
  refine ⟨hx.1, List.pairwise_cons.mpr ⟨hd, hx.2.1⟩, fun a ha c hc => ?_⟩
  rcases List.mem_cons.mp hc with rfl | hc
  · exact ht a ha
  · exact hx.2.2 a ha c hc
theorem insRow_pw (X : List Nat) : ∀ i, (insRow X i).Pairwise fun a c => kv X a ≤ kv X c
  | 0 => .nil
  | i + 1 => by
    have ih := insRow_pw X i
    unfold insRow
    refine pw_ins ih plc_le (fun j hj hj2 => ?_) (fun j hj hj2 => ?_)
    · exact Nat.le_of_not_lt (fun h => by have := (plc_gt ih hj2).mp h; omega)
    · exact Nat.le_of_lt ((plc_gt ih hj2).mpr hj)
def lawQ : Str := Str.ofString "law" ++ Str.ofString ".<locals>." ++ Str.ofString "<lambda>"
end
section
theorem rsSrt2 : True := by w_top off; k_with_none; trivial
open PySem PySem.W PyProof.Rows PySem.Calls
theorem kRun_wp {α : Type} {cmp : Nat → Nat → (Bool → Shared → Prop) → Shared → Prop} {l : List Nat} {Q : α → Shared → Prop} (hc : ∀ i j C s, i < l.length → j < l.length → C (decide (l.getD i 0 < l.getD j 0)) s → cmp i j C s) :
    ∀ (t : KasT α) (a : α) (s : Shared), kRun l t = some a → Q a s → t.kasWp cmp Q s
  | .ret b, a, s, h, hq => by cases h; exact hq
  | .ask i j k, a, s, h, hq => by
    unfold kRun at h
    split at h
    · rename_i hij
      exact hc i j _ s hij.1 hij.2 (kRun_wp hc (k _) a s h hq)
    · cases h
theorem insAll_mem (a : Nat) : ∀ (s t : List Nat), s ++ a :: t ∈ insAll a (s ++ t)
  | [], [] => .head _
  | [], b :: t => .head _
  | b :: s, t => by
    show b :: (s ++ a :: t) ∈ insAll a (b :: (s ++ t))
    unfold insAll
    exact .tail _ (List.mem_map_of_mem (insAll_mem a s t))
theorem mem_permsL : ∀ (m l : List Nat), l.Perm m → l ∈ permsL m
  | [], l, h => by rw [h.eq_nil]; exact .head _
  | a :: m, l, h => by
    have ha : a ∈ l := h.symm.subset (.head _)
    obtain ⟨s, t, rfl⟩ := List.append_of_mem ha
    have h2 : (a :: (s ++ t)).Perm (a :: m) := List.perm_middle.symm.trans h
    have := mem_permsL m (s ++ t) (List.Perm.cons_inv h2)
    unfold permsL
    exact List.mem_flatMap.mpr ⟨_, this, insAll_mem a s t⟩
theorem insRow_perm (X : List Nat) : ∀ i, (insRow X i).Perm (List.range i)
  | 0 => .refl _
  | i + 1 => by
    unfold insRow
    rw [List.range_succ]
    refine List.perm_middle.trans ?_
    rw [List.take_append_drop]
    exact (List.Perm.cons i (insRow_perm X i)).trans (List.perm_append_singleton i (List.range i)).symm
/-- a word's place in the order asked of sorted -/
def ky (X : List Nat) (k : Nat) : Nat := kv X k * 8 + k
theorem insRow_ky (X : List Nat) : ∀ i, i ≤ 6 → (insRow X i).Pairwise fun a c => ky X a < ky X c
  | 0, _ => .nil
  | i + 1, hi => by
    have ih := insRow_ky X i (by omega)
    have hpw := insRow_pw X i
    have hlt := insRow_lt X i
    unfold insRow
    have hx : ((insRow X i).take (plc false (kv X) (insRow X i) (kv X i)) ++ (insRow X i).drop (plc false (kv X) (insRow X i) (kv X i))).Pairwise fun a c => ky X a < ky X c := by rw [List.take_append_drop]; exact ih
    generalize hr : plc false (kv X) (insRow X i) (kv X i) = r at hx
    rw [List.pairwise_append] at hx ⊢
    have gd : ∀ n (hn : n < (insRow X i).length), (insRow X i).getD n 0 = (insRow X i)[n] := fun n hn => by rw [List.getD_eq_getElem?_getD, List.getElem?_eq_getElem hn]; rfl
    have ht : ∀ a ∈ (insRow X i).take r, ky X a < ky X i := fun a ha => by
      obtain ⟨j, hj, rfl⟩ := List.getElem_of_mem ha
      rw [List.length_take] at hj
      rw [List.getElem_take]
      have h1 : ¬ kv X i < kv X ((insRow X i)[j]'(by omega)) := fun h => by
        rw [← gd j (by omega)] at h
        have := (plc_gt hpw (by omega)).mp h
        omega
      have h2 := hlt _ (List.getElem_mem (show j < (insRow X i).length by omega))
      unfold ky; omega
    have hd : ∀ a ∈ (insRow X i).drop r, ky X i < ky X a := fun a ha => by
      obtain ⟨j, hj, rfl⟩ := List.getElem_of_mem ha
      rw [List.length_drop] at hj
      rw [List.getElem_drop]
      have h1 : kv X i < kv X ((insRow X i)[r + j]'(by omega)) := by
        rw [← gd (r + j) (by omega)]
        exact (plc_gt hpw (by omega)).mpr (by omega)
      unfold ky; omega
    refine ⟨hx.1, List.pairwise_cons.mpr ⟨hd, hx.2.1⟩, fun a ha c hc => ?_⟩
    rcases List.mem_cons.mp hc with rfl | hc
    · exact ht a ha
    · exact hx.2.2 a ha c hc
/-- the places of the numbers in the row -/
def rnk (X : List Nat) (n : Nat) : List Nat := (List.range n).map fun i => (insRow X n).idxOf i
theorem idxOf_map {l : List Nat} (h : l.Nodup) : l.map (fun i => l.idxOf i) = List.range l.length := by
  apply List.ext_getElem
  · simp
  · intro i h1 h2
    rw [List.getElem_map, List.getElem_range]
    rw [List.length_map] at h1
    exact h.idxOf_getElem i h1
theorem insRow_nodup (X : List Nat) (n : Nat) : (insRow X n).Nodup := (insRow_perm X n).nodup_iff.mpr List.nodup_range
theorem rnk_perm (X : List Nat) (n : Nat) : (rnk X n).Perm (List.range n) := by
  have := ((insRow_perm X n).map fun i => (insRow X n).idxOf i).symm
  rw [idxOf_map (insRow_nodup X n), insRow_len] at this
  exact this
theorem rnk_lt {X : List Nat} {n : Nat} (hn : n ≤ 6) {i j : Nat} (hi : i < n) (hj : j < n) : (rnk X n).getD i 0 < (rnk X n).getD j 0 ↔ ky X i < ky X j := by
  have gt : ∀ k, k < n → (rnk X n).getD k 0 = (insRow X n).idxOf k := fun k hk => by
    unfold rnk
    rw [List.getD_eq_getElem?_getD, List.getElem?_map, List.getElem?_range hk]; rfl
  rw [gt i hi, gt j hj]
  have mi : i ∈ insRow X n := (insRow_perm X n).symm.subset (List.mem_range.mpr hi)
  have mj : j ∈ insRow X n := (insRow_perm X n).symm.subset (List.mem_range.mpr hj)
  have hp := List.pairwise_iff_getElem.mp (insRow_ky X n hn)
  have li := List.idxOf_lt_length_of_mem mi
  have lj := List.idxOf_lt_length_of_mem mj
  have ei : (insRow X n)[(insRow X n).idxOf i] = i := List.getElem_idxOf li
  have ej : (insRow X n)[(insRow X n).idxOf j] = j := List.getElem_idxOf lj
  constructor
  · intro h
    have := hp _ _ li lj h
    rw [ei, ej] at this; exact this
  · intro h
    rcases Nat.lt_trichotomy ((insRow X n).idxOf i) ((insRow X n).idxOf j) with h1 | h1 | h1
    · exact h1
    · exfalso
      have : i = j := by rw [← ei, ← ej]; simp only [h1]
      subst this; omega
    · exfalso
      have := hp _ _ lj li h1
      rw [ei, ej] at this; omega
theorem sortPure {X : List Nat} {n : Nat} (hn : n = 5 ∨ n = 6) : ∃ p, kRun (rnk X n) (kas_sort n) = some p ∧ p.toList = insRow X n := by
  have hm := mem_permsL _ _ (rnk_perm X n)
  have hc : chk n (rnk X n) = true := by
    rcases hn with rfl | rfl
    · exact List.all_eq_true.mp chk5 _ hm
    · exact List.all_eq_true.mp chk6 _ hm
  unfold chk at hc
  cases hp : kRun (rnk X n) (kas_sort n) with
  | none => rw [hp] at hc; cases hc
  | some p =>
    rw [hp] at hc
    refine ⟨p, rfl, ?_⟩
    have e : p.toList.map (fun i => (rnk X n).getD i 9) = List.range n := by simpa using hc
    have e2 : (insRow X n).map (fun i => (insRow X n).idxOf i) = List.range n := by rw [idxOf_map (insRow_nodup X n), insRow_len]
    have hlen : (rnk X n).length = n := by unfold rnk; simp
    have hlp : p.toList.length = n := by have := congrArg List.length e; simpa using this
    apply List.ext_getElem
    · rw [hlp, insRow_len]
    · intro k h1 h2
      have q1 := congrArg (fun l => l[k]?) e
      have q2 := congrArg (fun l => l[k]?) e2
      simp only [List.getElem?_map, List.getElem?_eq_getElem h1, List.getElem?_eq_getElem h2, Option.map_some] at q1 q2
      rw [← q2] at q1
      have q3 := Option.some.inj q1
      have hin : p.toList[k] < n := by
        rcases Nat.lt_or_ge (p.toList[k]) n with h | h
        · exact h
        · exfalso
          rw [List.getD_eq_getElem?_getD, List.getElem?_eq_none (by omega)] at q3
          have : (insRow X n).idxOf ((insRow X n)[k]) < (insRow X n).length := List.idxOf_lt_length_of_mem (List.getElem_mem h2)
          rw [insRow_len] at this
          rw [← q3] at this
          simp at this
          omega
      have q4 : (rnk X n).getD (p.toList[k]) 9 = (insRow X n).idxOf (p.toList[k]) := by
        unfold rnk
        rw [List.getD_eq_getElem?_getD, List.getElem?_map, List.getElem?_range hin]; rfl
      rw [q4] at q3
      have m1 : p.toList[k] ∈ insRow X n := (insRow_perm X n).symm.subset (List.mem_range.mpr hin)
      have g1 := List.getElem_idxOf (List.idxOf_lt_length_of_mem m1)
      have g2 := List.getElem_idxOf (List.idxOf_lt_length_of_mem (List.getElem_mem h2))
      simp only [← q3] at g2
      rw [g1] at g2
      exact g2
end
section
theorem rsSrt3 : True := by w_top off; k_with_none; trivial
open PySem PySem.W PyProof.Rows PySem.Calls
abbrev tup3 (x y : Int) (z : Str) (t u v : Tok) : Obj := { cls := .type "tuple", data := .seq #[.int x t, .int y u, .str z v] }
/-- the key tuples of the first j words -/
def KsOk (X : List Nat) (j : Nat) (ks : List Value) (tks : List (Addr × Obj)) : Prop :=
  ks.length = j ∧ ∀ i, i < j → ∃ T t u v, ks[i]? = some (.ref T) ∧ (T, tup3 ((tOf X i : Nat) : Int) ((nOf X i + 1 : Nat) : Int) (st [97 + i]) t u v) ∈ tks
theorem KsOk.snoc {X : List Nat} {j : Nat} {ks : List Value} {tks : List (Addr × Obj)} {T : Addr} {t u v : Tok} (h : KsOk X j ks tks) :
    KsOk X (j + 1) (ks ++ [.ref T]) ((T, tup3 ((tOf X j : Nat) : Int) ((nOf X j + 1 : Nat) : Int) (st [97 + j]) t u v) :: tks) := by
  refine ⟨by rw [List.length_append, h.1]; rfl, fun i hi => ?_⟩
  by_cases hij : i < j
  · obtain ⟨T', t', u', v', e1, e2⟩ := h.2 i hij
    exact ⟨T', t', u', v', by rw [List.getElem?_append_left (by rw [h.1]; exact hij)]; exact e1, .tail _ e2⟩
  · have : i = j := by omega
    subst this
    exact ⟨T, t, u, v, by rw [List.getElem?_append_right (by rw [h.1]; exact Nat.le_refl _), h.1, Nat.sub_self]; rfl, .head _⟩
/-- the key's calls -/
def KeyT (w : World) (X : List Nat) (n : Nat) (vs : List Value) (f : Addr) (g' : Heap) : Prop :=
  ∀ (A2 : Around) (s2 : Shared) (R2 : Result → Shared → Prop) (k : Nat) (v : Value), k < n → vs[k]? = some v → On g' s2.heap [] → A2.depth + 3 < recursionLimit → A2.units + 30 < cLine → A2.handled = none →
    (∀ h' tk' T t u y, On g' h' [(T, tup3 ((tOf X k : Nat) : Int) ((nOf X k + 1 : Nat) : Int) (st [97 + k]) t u y)] → R2 (.ok (.ret (.ref T))) { s2 with heap := h', toks := tk' }) →
    codeAny (model VW w) A2 (.call (.ref f) ⟨[v], []⟩) R2 s2
section
variable {w : World} {A2 : Around} {g : Heap} {L kS f : Addr} {m : Str → Option Value} {base : List (Addr × Obj)} {vs : List Value} {X : List Nat} {n : Nat} {Fin : List Value → Nat → Shared → Prop} {s0 : Shared}
theorem keysOn (hvs : vs.length = n) (hd : A2.depth + 3 < recursionLimit) (hu : A2.units + 30 < cLine) (hh : A2.handled = none)
    (hkey : ∀ g', g.StaysIn g' → (∀ q ∈ base, g'.get? q.1 = some q.2) → KeyT w X n vs f g')
    (hfin : ∀ h tk ks e tks, KsOk X n ks tks → Fr g L h m → News g L h ((kS, seqObj "list" (List.toArray ks) e) :: (tks ++ base)) → (∀ p ∈ tks ++ base, p.1 ≠ kS) → Fin ks e { s0 with heap := h, toks := tk }) :
    ∀ (r : List Value) (j : Nat) (ks : List Value) (e : Nat) (tks : List (Addr × Obj)) (h : Heap) (tk : Nat), vs.drop j = r → j ≤ n → KsOk X j ks tks → Fr g L h m → News g L h ((kS, seqObj "list" (List.toArray ks) e) :: (tks ++ base)) → (∀ p ∈ tks ++ base, p.1 ≠ kS) →
      KatKeys VW w A2 g L m kS (.ref f) Fin r ks e { s0 with heap := h, toks := tk }
  | [], j, ks, e, tks, h, tk, hr, hjn, hk, F, N, hne => by
    have hj : j = n := by
      have := congrArg List.length hr
      rw [List.length_drop, List.length_nil] at this
      omega
    subst hj
    exact KatKeys.nil (hfin h tk ks e tks hk F N hne)
  | v :: r, j, ks, e, tks, h, tk, hr, hjn, hk, F, N, hne => by
    have hjl : j < vs.length := by
      have := congrArg List.length hr
      rw [List.length_drop, List.length_cons] at this
      omega
    have hv : vs[j]? = some v := by
      have := congrArg (fun l => l[0]?) hr
      simp only [List.getElem?_drop, List.getElem?_cons_zero, Nat.add_zero] at this
      exact this
    refine KatKeys.cons (callOn F N [] _ (fun _ h => nomatch h) (fun _ h => h) (fun _ _ _ h => nomatch h) (fun g' st' sz' O' hg' hk' => ?_))
    refine hkey g' st' (fun q hq => hg' q (.tail _ (List.mem_append_right _ hq))) A2 _ _ j v (by omega) hv O' hd hu hh ?_
    intro h2 tk2 T t u y O2
    refine ⟨_, h2, tk2, _, rfl, rfl, O2, fun F2 N2 => ?_⟩
    have dj : ∀ p ∈ (kS, seqObj "list" (List.toArray ks) e) :: (tks ++ base), p.1 ≠ T := fun p hp e => by
      have h1 := (O2.nw _ (.head _)).2
      have h3 := hg' p hp
      rw [e, h1] at h3
      cases h3
    refine KatBack.intro F2 (newsSub (news' := (kS, seqObj "list" (List.toArray ks) e) :: (((T, tup3 ((tOf X j : Nat) : Int) ((nOf X j + 1 : Nat) : Int) (st [97 + j]) t u y) :: tks) ++ base)) N2 ?_) (UpdF.head ?_) (fun h3 c F3 N3 => ?_)
    · intro q hq
      rcases List.mem_cons.mp hq with rfl | hq
      · exact .tail _ (.head _)
      rcases List.mem_cons.mp hq with rfl | hq
      · exact .head _
      · exact .tail _ (.tail _ hq)
    · intro p hp
      rcases List.mem_cons.mp hp with rfl | hp
      · exact Ne.symm (dj _ (.head _))
      · exact hne p hp
    · refine keysOn hvs hd hu hh hkey hfin r (j + 1) _ c _ h3 _ ?_ (by omega) hk.snoc F3 N3 ?_
      · rw [← List.drop_drop, hr]; rfl
      · intro p hp
        rcases List.mem_cons.mp hp with rfl | hp
        · exact Ne.symm (dj _ (.head _))
        · exact hne p hp
end
end
section
theorem rsSrt4 : True := by w_top off; k_with_none; trivial
open PySem PySem.W PyProof.Rows PySem.Calls
theorem kRun_at {α : Type} {cmp : Nat → Nat → (Bool → Shared → Prop) → Shared → Prop} {l : List Nat} {Q : α → Shared → Prop} {s : Shared} (hc : ∀ i j C, i < l.length → j < l.length → C (decide (l.getD i 0 < l.getD j 0)) s → cmp i j C s) :
    ∀ (t : KasT α) (a : α), kRun l t = some a → Q a s → t.kasWp cmp Q s
  | .ret b, a, h, hq => by cases h; exact hq
  | .ask i j k, a, h, hq => by
    unfold kRun at h
    split at h
    · rename_i hij
      exact hc i j _ hij.1 hij.2 (kRun_at hc (k _) a h hq)
    · cases h
theorem katTupsOf {h : Heap} : ∀ (ks : List Value), (∀ v ∈ ks, ∃ T x y z t u y', v = Value.ref T ∧ h.get? T = some (tup3 x y z t u y')) → ∃ fs, KatTups h ks fs ∧ fs.length = ks.length ∧ ∀ v ∈ fs, ∃ i t, v = Value.int i t
  | [], _ => ⟨[], KatTups.nil, rfl, fun _ h => nomatch h⟩
  | v :: ks, hv => by
    obtain ⟨T, x, y, z, t, u, y', rfl, e⟩ := hv v (.head _)
    obtain ⟨fs, h1, h2, h3⟩ := katTupsOf ks (fun v hm => hv v (.tail _ hm))
    refine ⟨.int x t :: fs, KatTups.cons e rfl rfl rfl h1, by rw [List.length_cons, List.length_cons, h2], fun v hm => ?_⟩
    rcases List.mem_cons.mp hm with rfl | hm
    · exact ⟨x, t, rfl⟩
    · exact h3 v hm
theorem st1_lt {a b : Nat} : ((st [a]).cps.toList < (st [b]).cps.toList) ↔ a < b := by
  show ([a] : List Nat) < [b] ↔ a < b
  rw [List.cons_lt_cons_iff]
  simp
section
variable {w : World} {A : Around} {E : Value → Shared → Prop} {s : Shared} {X : List Nat}
theorem kyLt {Ti Tj : Addr} {i j : Nat} {t u y t' u' y' : Tok} {C : Bool → Shared → Prop} (hi : s.heap.get? Ti = some (tup3 ((tOf X i : Nat) : Int) ((nOf X i + 1 : Nat) : Int) (st [97 + i]) t u y)) (hj : s.heap.get? Tj = some (tup3 ((tOf X j : Nat) : Int) ((nOf X j + 1 : Nat) : Int) (st [97 + j]) t' u' y'))
    (hi6 : i < 6) (hj6 : j < 6) (h : C (decide (ky X i < ky X j)) s) : wpAny (model VW w) A (keyLt' (tuples' true) (.ref Ti) (.ref Tj)) C (fun _ _ => False) s := by
  have n1 := nOf_le X i
  have n2 := nOf_le X j
  refine kat_lt hi rfl hj rfl ?_
  show KatLex VW w A true _ C [(.int ((tOf X i : Nat) : Int) t, .int ((tOf X j : Nat) : Int) t'), (.int ((nOf X i + 1 : Nat) : Int) u, .int ((nOf X j + 1 : Nat) : Int) u'), (.str (st [97 + i]) y, .str (st [97 + j]) y')] 0 s
  refine kat_cons (wpAny_eqBool_int (kat_go (fun e => kat_yes ?_) (fun e => kat_no ?_)))
  · have e1 : tOf X i = tOf X j := by have := eq_of_beq e; omega
    refine kat_cons (wpAny_eqBool_int (kat_go (fun e => kat_yes ?_) (fun e => kat_no ?_)))
    · have e2 : nOf X i = nOf X j := by have := eq_of_beq e; omega
      refine kat_cons (wpAny_eqBool_str (kat_go (fun e => kat_yes ?_) (fun e => kat_no ?_)))
      · have e3 := st1_inj.mp (of_decide_eq_true e)
        have : i = j := by omega
        subst this
        rw [decide_eq_false (Nat.lt_irrefl _)] at h
        exact kat_nil h
      · refine kat_one _ _ (lt_str ?_)
        have e4 : decide ((st [97 + i]).cps.toList < (st [97 + j]).cps.toList) = decide (ky X i < ky X j) := by
          refine decide_eq_decide.mpr ?_
          rw [st1_lt]
          unfold ky kv
          rw [e1, e2]; omega
        show C _ s
        rw [e4]; exact h
    · refine kat_one _ _ (lt_int ?_)
      have e2 : ¬ nOf X i = nOf X j := fun q => by rw [q, beq_self_eq_true] at e; cases e
      have e4 : decide (((nOf X i + 1 : Nat) : Int) < ((nOf X j + 1 : Nat) : Int)) = decide (ky X i < ky X j) := by
        refine decide_eq_decide.mpr ?_
        unfold ky kv
        rw [e1]; omega
      show C _ s
      rw [e4]; exact h
  · refine oneLt_int ?_
    have e2 : ¬ tOf X i = tOf X j := fun q => by rw [q, beq_self_eq_true] at e; cases e
    have e4 : decide (((tOf X i : Nat) : Int) < ((tOf X j : Nat) : Int)) = decide (ky X i < ky X j) := by
      refine decide_eq_decide.mpr ?_
      unfold ky kv
      omega
    rw [e4]; exact h
theorem sortOn {mean : ExcName → Option Value} {mg mb : Str → Option Value} {g : Heap} {L l f : Addr} {m : Str → Option Value} {news : List (Addr × Obj)} {vs : List Value} {n : Nat} {Q : Value → Shared → Prop} (hn : n = 5 ∨ n = 6) (hvs : vs.length = n) (G : Gr w mean mg mb A 12 g)
    (F : Fr g L s.heap m) (N : News g L s.heap news) (hl : s.heap.IsList l vs.toArray)
    (hkey : ∀ g', g.StaysIn g' → (∀ q ∈ news, g'.get? q.1 = some q.2) → KeyT w X n vs f g')
    (h : ∀ h' tk D c, Fr g L h' m → News g L h' ((D, listOf (List.toArray ((insRow X n).map fun i => vs.getD i Value.none)) c) :: news) → (∀ q ∈ news, q.1 < D) → Q (.ref D) { s with heap := h', toks := tk }) :
    wpAny (model VW w) A (call (.builtin "sorted") [.ref l] [(Str.ofString "key", .ref f)]) Q E s := by
  refine kat_sortedK (b := false) F N hl (by omega) (by omega) (ksk_s1 _ _) (fun x => ksk_l1 _ _) (fun x => ksk_t1 f x) (fun D kS e1 h' F' N' l0 l1 => ?_)
  have G1 := G.in1.in1
  have hDn : ∀ q ∈ news, q.1 ≠ D := fun q hq => Nat.ne_of_lt (l1 q hq)
  refine keysOn (base := (D, seqObj "list" #[] e1) :: news) (X := X) hvs (by have := G1.room; omega) (by have := G1.units; omega) G1.hh (fun g' st hg => hkey g' st (fun q hq => hg q (.tail _ hq))) ?_ vs 0 [] 0 [] h' s.toks rfl (Nat.zero_le _) ⟨rfl, fun i h => by omega⟩ F' N' ?_
  · intro h2 tk2 ks e tks hk F2 N2 hne
    have hT : ∀ i, i < n → ∃ T t u v, ks.getD i Value.none = .ref T ∧ h2.get? T = some (tup3 ((tOf X i : Nat) : Int) ((nOf X i + 1 : Nat) : Int) (st [97 + i]) t u v) := fun i hi => by
      obtain ⟨T, t, u, v, e1, e2⟩ := hk.2 i hi
      exact ⟨T, t, u, v, by rw [List.getD_eq_getElem?_getD, e1]; rfl, (N2 _ (.tail _ (List.mem_append_left _ e2))).1⟩
    obtain ⟨fs, hf1, hf2, hf3⟩ := katTupsOf (h := h2) ks (fun v hv => by
      obtain ⟨i, hi, rfl⟩ := List.getElem_of_mem hv
      obtain ⟨T, t, u, y, e1, e2⟩ := hk.2 i (by rw [← hk.1]; exact hi)
      rw [List.getElem?_eq_getElem hi] at e1
      exact ⟨T, _, _, _, t, u, y, Option.some.inj e1, (N2 _ (.tail _ (List.mem_append_left _ e2))).1⟩)
    refine kat_kind (T := .type "int") hf1 (by rw [hf2, hk.1]; omega) (fun v hv => by obtain ⟨i, t, rfl⟩ := hf3 v hv; exact Looks.of_pure rfl) (by decide) ?_
    obtain ⟨p, hp, hpl⟩ := sortPure (X := X) hn
    have hrl : (rnk X n).length = n := by unfold rnk; simp
    rw [hvs]
    show KasT.kasWp (kas_ask VW w A.in1.in1 (tuples' true) ks) (kas_sort n) _ _
    refine kRun_at (l := rnk X n) (fun i j C hi hj hC => ?_) (kas_sort n) p hp ?_
    · rw [hrl] at hi hj
      obtain ⟨Ti, t, u, y, e1, e2⟩ := hT i hi
      obtain ⟨Tj, t', u', y', e3, e4⟩ := hT j hj
      unfold kas_ask
      rw [e1, e3]
      refine kyLt e2 e4 (by omega) (by omega) ?_
      rw [← decide_eq_decide.mpr (rnk_lt (X := X) (n := n) (by omega) hi hj)]
      exact hC
    · refine KatFin.intro F2 N2 (UpdF.head hne) (fun h3 c F3 N3 => ?_)
      refine KasFin.intro F3 (newsSub (news' := (D, seqObj "list" #[] e1) :: news) N3 (fun q hq => .tail _ (List.mem_append_right _ hq))) (UpdF.head hDn) (fun h4 c4 F4 N4 => ?_)
      rw [show katRev false (List.map (fun i => (katRev false vs).getD i Value.none) p.toList) = (insRow X n).map (fun i => vs.getD i Value.none) by rw [hpl]; rfl] at N4
      exact h h4 tk2 D _ F4 N4 l1
  · intro p hp
    rcases List.mem_cons.mp hp with rfl | hp
    · exact Nat.ne_of_lt l0
    · exact Nat.ne_of_lt (Nat.lt_trans (l1 p hp) l0)
end
end
section
theorem rsL12 : True := by w_top off; k_with_none; trivial
open PySem PySem.W PyProof.Rows PySem.Calls PyProof.Rows.LSm
variable {fa : Addr}
local macro_rules | `(tactic| k_inst) => `(tactic| (refine' instNN ?N ?a ?b; (case N => assumption); (case a => k_mem); (case b => k_mem)))
local macro_rules | `(tactic| k_inst) => `(tactic| first
  | (refine' instGL ?a ?F ?N ?m; (case a => assumption); (case F => assumption); (case N => assumption); (case m => k_mem))
  | (refine' instG ?a ?b ?k; (case a => assumption); (case b => assumption); (case k => exact Fr.keep (by assumption))))
local macro_rules | `(tactic| k_mem) => `(tactic| assumption)
/-- the sizes of the choices whose T2 is k at most -/
def szs (T1 T2 : List Nat) (k j : Nat) : List Nat := ((List.range j).filter fun m => decide (T2.getD m 0 ≤ k)).map fun m => T1.getD m 0
/-- what the law asks of a run at k -/
def LawK (T1 T2 out : List Nat) (k : Nat) : Prop := (out.take k).sum ∈ szs T1 T2 k T1.length ∧ ∀ a ∈ szs T1 T2 k T1.length, a ≤ (out.take k).sum
theorem newsAs12 {g h : Heap} {L : Addr} {n n' : List (Addr × Obj)} (N : News g L h n) (e : n' = n) : News g L h n' := by rw [e]; exact N
theorem szs_succ {T1 T2 : List Nat} {k j : Nat} : szs T1 T2 k (j + 1) = szs T1 T2 k j ++ (if T2.getD j 0 ≤ k then [T1.getD j 0] else []) := by
  unfold szs
  rw [List.range_succ, List.filter_append, List.map_append]
  congr 1
  simp only [List.filter_cons, List.filter_nil]
  by_cases h : T2.getD j 0 ≤ k
  · rw [decide_eq_true h, if_pos rfl, if_pos h]; rfl
  · rw [decide_eq_false h, if_neg (by decide), if_neg h]; rfl
theorem law12 {w : World} {mean : ExcName → Option Value} {mg mb : Str → Option Value} {A : Around} {g : Heap} {s : Shared} {Q : Flow → Shared → Prop} {L : Nat} {h : Heap} {tk : Nat} {m : Str → Option Value}
  {o2 o3 o4 o5 o6 : Obj} {v₆ : Option Value} {rw Du Dd ls ln lp : Nat} {vr vu vd vs vn vp : List Value} {cr cu cd cs cn cp n : Nat} {imm : List (Addr × Obj)} {up down sz ne sp : List Nat} (sc : Scope) (hsc : sc = lawD.2) (bd : List Stmt) (hbd : bd = lawD.1.drop 12)
  (F : Fr g L h m) (N : News g L h ((L + 2, o2) :: (L + 3, o3) :: (L + 4, o4) :: (L + 5, o5) :: (L + 6, o6) :: (rw, listOf vr.toArray cr) :: imm))
  (hm1 : m (Str.ofString "up") = some (.ref Du)) (hm2 : m (Str.ofString "down") = some (.ref Dd))
  (hd2 : o2.data = .cell (some (.ref rw))) (hd3 : o3.data = .cell (some (.ref ls))) (hd4 : o4.data = .cell (some (.ref ln))) (hd5 : o5.data = .cell (some (.ref lp))) (hd6 : o6.data = .cell v₆)
  (hu : (Du, listOf vu.toArray cu) ∈ imm) (hd : (Dd, listOf vd.toArray cd) ∈ imm) (hs : (ls, listOf vs.toArray cs) ∈ imm) (hn : (ln, listOf vn.toArray cn) ∈ imm) (hp : (lp, listOf vp.toArray cp) ∈ imm)
  (hvu : IntsAre vu (nats up)) (hvd : IntsAre vd (nats down)) (hvs : IntsAre vs (nats sz)) (hvn : IntsAre vn (nats ne)) (hvp : IntsAre vp (nats sp)) (hz1 : sz.length = ne.length) (hz2 : sz.length = sp.length) (hzz : sz.length ≤ 1000) (huz : up.length ≤ 20000) (hdz : down.length ≤ 20000)
  (hrn : vr.length = n) (hn6 : n ≤ 6) (hrw : @LT.lt Nat _ (L + 7) rw) (n6 : ∀ q ∈ imm, q.1 ≠ L + 6)
  (hlu : ∀ k, 1 ≤ k → k ≤ n → LawK sz sp up k) (hld : ∀ k, 1 ≤ k → k ≤ n → LawK sz ne down k)
  (G : Gr w mean mg mb (A.deeper (lawE fa sc L)) 20 g)
  (hQ : ∀ h' tk' m', Fr g L h' m' → (∀ q ∈ imm, h'.get? q.1 = some q.2) → Q (.ret (.bool true)) { s with heap := h', toks := tk' }) :
  wpAny (model VW w) (A.deeper (lawE fa sc L)) (execs bd (lawE fa sc L)) Q (fun _ _ => False) { s with heap := h, toks := tk } := by
  conv at hsc => rhs; whnf
  conv at hbd => rhs; whnf
  subst hsc
  subst hbd
  obtain ⟨hdl, dp, fr, gd, un⟩ := A
  obtain rfl : hdl = none := G.hh
  have X' := G.X
  have T' := G.T
  replace F := Fr.as F [(Str.ofString "up", .ref Du), (Str.ofString "down", .ref Dd)] (List.forall_mem_cons.mpr ⟨hm1, List.forall_mem_cons.mpr ⟨hm2, List.forall_mem_nil _⟩⟩)
  k_with "stop" => (with_reducible show wpAny _ _ (exec (Stmt.For _ _ _ _ _) _) _ _ _)
  k_steps
  refine for_ ?_
  k_with_none
  k_with "stop" => (first | (with_reducible show wpAny _ _ (call (Value.builtin "len") _) _ _ _) | (with_reducible show wpAny _ _ (pyIter _) _ _ _))
  k_steps
  rename News _ _ _ _ => N1
  refine lenN N1 (l := rw) (items := vr.toArray) (c := cr) (by k_mem) (by rw [List.size_toArray]; omega) ?_
  intro t1 tk1
  rw [List.size_toArray, hrn]
  k_steps
  rename IsRange _ _ _ _ _ _ _ _ => hr2
  rename News _ _ _ _ => N2
  rename Fr _ _ _ _ => F2
  refine' forRange hr2 (by omega) (by omega) (by omega) rfl rfl (fun i m₁ news₁ => Ex2 fun (o6 : Obj) (v₆ : Option Value) => C4 (m₁ (Str.ofString "up") = some (.ref Du)) (m₁ (Str.ofString "down") = some (.ref Dd)) (o6.data = .cell v₆) (news₁ = ((L + 2, o2) :: (L + 3, o3) :: (L + 4, o4) :: (L + 5, o5) :: (L + 6, o6) :: (rw, listOf vr.toArray cr) :: imm))) F2 N2 ?hJ ?turn ?done
  case hJ => exact ⟨_, _, rfl, rfl, hd6, rfl⟩
  case turn =>
    clear F2 N2 hd6
    rintro I oI i tv m₁ news₁ h6 tk6 hi6 ⟨o6, v₆, e1, e2, hd6, rfl⟩ hnI F6 N6
    replace F6 := Fr.as F6 [(Str.ofString "up", .ref Du), (Str.ofString "down", .ref Dd)] (List.forall_mem_cons.mpr ⟨e1, List.forall_mem_cons.mpr ⟨e2, List.forall_mem_nil _⟩⟩)
    clear e1 e2
    obtain ⟨k, hk⟩ : ∃ k, k = 1 + i := ⟨_, rfl⟩
    have hk1 : (1 : Int) + (i : Nat) = ((k : Nat) : Int) := by omega
    rw [hk1] at hi6 ⊢
    have hnI1 := neN (hnI (L + 6, o6) (by k_mem))
    dsimp only at hnI1
    have neL6 : L + 6 ≠ I := hnI (L + 6, o6) (memAt 4 rfl)
    k_with_none
    k_with "stop" => (first | (with_reducible show wpAny _ _ (subscriptTail _ _ _ _) _ _ _) | (with_reducible show wpAny _ _ (eval (Expr.ListComp _ _ _ _) _) _ _ _))
    k_steps
    refine kba_turn (value' := Expr.Name (Str.ofString "_") ⟨0, 0, 0, 0⟩) (fun _ => rfl) ?_
    rename News _ _ _ _ => N7
    rename Fr _ _ _ _ => F7
    refine' kmk_slice_ints (vs := vu) (ns := nats up) (ms := nats (up.take k)) F7 N7 ?l IsPart.none (IsPart.int _ _) hvu ?m rfl ?_ ?s ?t ?z
    case l => exact isListN N7 (by k_mem)
    case m =>
      have := kmk_upto (y := ((k : Nat) : Int)) hvu (by omega)
      rw [Int.toNat_natCast] at this
      rw [nats, List.map_take]; exact this
    case s => with_unfolding_all rfl
    case t => kmk_pure
    case z => exact kmk_sz hvu (by rw [nats, List.length_map]; exact Nat.le_trans huz (by decide))
    intro D2 ws2 h2 F8 N8 l2 hI2 _ _
    clear F7 N7
    k_lt l2
    k_with "stop" => (with_reducible show wpAny _ _ (call (Value.builtin "sum") _) _ _ _)
    k_steps
    refine sum_ints F8 N8 rfl (isListN N8 (.head _)) hI2 ?_
    intro h18 tk18 t18 F18 N18
    clear F8 N8
    rw [show (nats (up.take k)).sum = (((up.take k).sum : Nat) : Int) by rw [natsSum]]
    k_with "stop" => (with_reducible show wpAny _ _ (eval (Expr.ListComp _ _ _ _) _) _ _ _)
    k_steps
    refine listComp_ (cl := [(Str.ofString "spreads", L + 5), (Str.ofString "sizes", L + 3), (Str.ofString "k", L + 6)]) rfl rfl (by decide) ?_
    k_with "stop" => (first | (with_reducible show wpAny _ _ (call (Value.builtin "len") _) _ _ _) | (with_reducible show wpAny _ _ (pyIter _) _ _ _))
    k_steps
    rename News _ _ _ _ => N19
    refine lenN N19 (l := ls) (items := vs.toArray) (c := cs) (by k_mem) (by rw [List.size_toArray, hvs.length, nats, List.length_map]; omega) ?_
    intro t19 tk19
    rw [List.size_toArray, hvs.length, nats, List.length_map]
    k_steps
    rename IsRange _ _ _ _ _ _ _ _ => hr8
    rename Fr _ _ _ _ => F20
    rename News _ _ _ _ => N20
    rename Obj => oK
    have hol1 : ∃ L4, L4 = ((D2, listOf ws2.toArray 0) :: (I, oI) :: (L + 2, o2) :: (L + 3, o3) :: (L + 4, o4) :: (L + 5, o5) :: (L + 6, oK) :: (rw, listOf vr.toArray cr) :: imm) := ⟨_, rfl⟩
    obtain ⟨L4, hL4⟩ := hol1
    have N21 := newsAs12 N20 hL4
    clear N20
    refine' compRange (m := _) hr8 (by omega) (by omega) (by omega) rfl (fun C3 j ys m₂ news₂ => IntsAre ys (nats (szs sz sp k j)) ∧ news₂ = L4) F20 N21 ?hJ5 ?turn5 ?done5
    case hJ5 => exact fun C3 _ => ⟨.nil, rfl⟩
    case turn5 =>
      rintro I3 C3 D3 oL3 oI3 j tv3 ys4 cc4 mc₃ nw₃ h17 tk17 dc4 ld4 iD4 hj ⟨hys4, rfl⟩ hap3 F17 N17
      rw [Int.zero_add] at hj ⊢
      subst hL4
      unfold CompTurn
      have hj6 : j < sz.length := by omega
      obtain ⟨q1, hq1⟩ := natsGet (i := j) hvs hj6
      obtain ⟨q2, hq2⟩ := natsGet (i := j) hvp (by omega)
      k_with "stop" => (first | (with_reducible show wpAny _ _ (tests _ _) _ _ _) | (with_reducible show wpAny _ _ (subscriptTail _ _ _ _) _ _ _))
      k_steps
      refine tests_one ?_
      k_steps
      rename Fr _ _ _ _ => F18
      rename News _ _ _ _ => N18
      refine itemN N18 (c := cp) (by k_mem) hq2 (by omega) ?_
      k_with "stop" => (first | (with_reducible show wpAny _ _ (subscriptTail _ _ _ _) _ _ _))
      k_steps
      · rename ((List.getD _ _ _ : Nat) : Int) ≤ _ => hle
        refine itemN N18 (c := cs) (by k_mem) hq1 (by omega) ?_
        refine ⟨_, _, _, _, rfl, F18, N18, hap3, ?_, rfl⟩
        rw [szs_succ, if_pos (by omega), nats, List.map_append]
        exact IntsAre.snoc hys4
      · rename ¬ ((List.getD _ _ _ : Nat) : Int) ≤ _ => hle
        refine ⟨_, _, _, _, rfl, F18, N18, hap3, ?_, rfl⟩
        rw [szs_succ, if_neg (by omega), List.append_nil]
        exact hys4
    case done5 =>
      rintro C3 D3 ys4 cc4 mc₃ nw₃ h17 tk17 dc4 ld4 ⟨hys4, rfl⟩ hap3 F17 N17
      have e0 : ((sz.length : Int) - 0).toNat = sz.length := by omega
      rw [e0] at hys4
      obtain ⟨hin, hmx⟩ := hlu k (by omega) (by omega)
      k_with "stop" => (with_reducible show wpAny _ _ (call (Value.builtin "max") _) _ _ _)
      k_steps
      refine kso_max F17 N17 (isListN N17 (.head _)) hys4 (by rw [nats, List.length_map]; exact List.length_pos_of_mem hin) rfl ?_
      intro h18 M18 t18 tk18 F18 N18 hM1 hM2
      subst hL4
      clear F17 N17
      have hMe : M18 = (((up.take k).sum : Nat) : Int) := by
        obtain ⟨a, ha, rfl⟩ := List.mem_map.mp hM1
        have h1 := hmx a ha
        have h2 := hM2 _ (List.mem_map_of_mem hin)
        have h1' : ((a : Nat) : Int) ≤ (((up.take k).sum : Nat) : Int) := Int.ofNat_le.mpr h1
        exact Int.le_antisymm h1' h2
      rw [hMe]
      k_with "stop" => (first | (with_reducible show wpAny _ _ (subscriptTail _ _ _ _) _ _ _) | (with_reducible show wpAny _ _ (eval (Expr.ListComp _ _ _ _) _) _ _ _))
      k_steps
      try exact absurd rfl (by assumption)
      · skip
        refine kba_turn (value' := Expr.Name (Str.ofString "_") ⟨0, 0, 0, 0⟩) (fun _ => rfl) ?_
        rename News _ _ _ _ => N7
        rename Fr _ _ _ _ => F7
        refine' kmk_slice_ints (vs := vd) (ns := nats down) (ms := nats (down.take k)) F7 N7 ?l IsPart.none (IsPart.int _ _) hvd ?m rfl ?_ ?s ?t ?z
        case l => exact isListN N7 (by k_mem)
        case m =>
          have := kmk_upto (y := ((k : Nat) : Int)) hvd (by omega)
          rw [Int.toNat_natCast] at this
          rw [nats, List.map_take]; exact this
        case s => with_unfolding_all rfl
        case t => kmk_pure
        case z => exact kmk_sz hvd (by rw [nats, List.length_map]; exact Nat.le_trans hdz (by decide))
        intro D5 ws5 h2 F8 N8 l2 hI2 _ _
        clear F7 N7
        k_lt l2
        k_with "stop" => (with_reducible show wpAny _ _ (call (Value.builtin "sum") _) _ _ _)
        k_steps
        refine sum_ints F8 N8 rfl (isListN N8 (.head _)) hI2 ?_
        intro h18 tk18 t18 F18 N18
        clear F8 N8
        rw [show (nats (down.take k)).sum = (((down.take k).sum : Nat) : Int) by rw [natsSum]]
        k_with "stop" => (with_reducible show wpAny _ _ (eval (Expr.ListComp _ _ _ _) _) _ _ _)
        k_steps
        refine listComp_ (cl := [(Str.ofString "sizes", L + 3), (Str.ofString "nests", L + 4), (Str.ofString "k", L + 6)]) rfl rfl (by decide) ?_
        k_with "stop" => (first | (with_reducible show wpAny _ _ (call (Value.builtin "len") _) _ _ _) | (with_reducible show wpAny _ _ (pyIter _) _ _ _))
        k_steps
        rename News _ _ _ _ => N19
        refine lenN N19 (l := ls) (items := vs.toArray) (c := cs) (by k_mem) (by rw [List.size_toArray, hvs.length, nats, List.length_map]; omega) ?_
        intro t19 tk19
        rw [List.size_toArray, hvs.length, nats, List.length_map]
        k_steps
        rename IsRange _ _ _ _ _ _ _ _ => hr8
        rename Fr _ _ _ _ => F20
        rename News _ _ _ _ => N20
        have hol1 : ∃ L4, L4 = ((D5, listOf ws5.toArray 0) :: (D3, listOf ys4.toArray cc4) :: (D2, listOf ws2.toArray 0) :: (I, oI) :: (L + 2, o2) :: (L + 3, o3) :: (L + 4, o4) :: (L + 5, o5) :: (L + 6, oK) :: (rw, listOf vr.toArray cr) :: imm) := ⟨_, rfl⟩
        obtain ⟨L4, hL4⟩ := hol1
        have N21 := newsAs12 N20 hL4
        clear N20
        refine' compRange (m := _) hr8 (by omega) (by omega) (by omega) rfl (fun C3 j ys m₂ news₂ => IntsAre ys (nats (szs sz ne k j)) ∧ news₂ = L4) F20 N21 ?hJ5 ?turn5 ?done5
        case hJ5 => exact fun C3 _ => ⟨.nil, rfl⟩
        case turn5 =>
          rintro I3 C3 D3 oL3 oI3 j tv3 ys4 cc4 mc₃ nw₃ h17 tk17 dc4 ld4 iD4 hj ⟨hys4, rfl⟩ hap3 F17 N17
          rw [Int.zero_add] at hj ⊢
          subst hL4
          unfold CompTurn
          have hj6 : j < sz.length := by omega
          obtain ⟨q1, hq1⟩ := natsGet (i := j) hvs hj6
          obtain ⟨q2, hq2⟩ := natsGet (i := j) hvn (by omega)
          k_with "stop" => (first | (with_reducible show wpAny _ _ (tests _ _) _ _ _) | (with_reducible show wpAny _ _ (subscriptTail _ _ _ _) _ _ _))
          k_steps
          refine tests_one ?_
          k_steps
          rename Fr _ _ _ _ => F18
          rename News _ _ _ _ => N18
          refine itemN N18 (c := cn) (by k_mem) hq2 (by omega) ?_
          k_with "stop" => (first | (with_reducible show wpAny _ _ (subscriptTail _ _ _ _) _ _ _))
          k_steps
          · rename ((List.getD _ _ _ : Nat) : Int) ≤ _ => hle
            refine itemN N18 (c := cs) (by k_mem) hq1 (by omega) ?_
            refine ⟨_, _, _, _, rfl, F18, N18, hap3, ?_, rfl⟩
            rw [szs_succ, if_pos (by omega), nats, List.map_append]
            exact IntsAre.snoc hys4
          · rename ¬ ((List.getD _ _ _ : Nat) : Int) ≤ _ => hle
            refine ⟨_, _, _, _, rfl, F18, N18, hap3, ?_, rfl⟩
            rw [szs_succ, if_neg (by omega), List.append_nil]
            exact hys4
        case done5 =>
          rintro C3 D3 ys4 cc4 mc₃ nw₃ h17 tk17 dc4 ld4 ⟨hys4, rfl⟩ hap3 F17 N17
          have e0 : ((sz.length : Int) - 0).toNat = sz.length := by omega
          rw [e0] at hys4
          obtain ⟨hin, hmx⟩ := hld k (by omega) (by omega)
          k_with "stop" => (with_reducible show wpAny _ _ (call (Value.builtin "max") _) _ _ _)
          k_steps
          refine kso_max F17 N17 (isListN N17 (.head _)) hys4 (by rw [nats, List.length_map]; exact List.length_pos_of_mem hin) rfl ?_
          intro h18 M18 t18 tk18 F18 N18 hM1 hM2
          subst hL4
          clear F17 N17
          have hMe : M18 = (((down.take k).sum : Nat) : Int) := by
            obtain ⟨a, ha, rfl⟩ := List.mem_map.mp hM1
            have h1 := hmx a ha
            have h2 := hM2 _ (List.mem_map_of_mem hin)
            have h1' : ((a : Nat) : Int) ≤ (((down.take k).sum : Nat) : Int) := Int.ofNat_le.mpr h1
            exact Int.le_antisymm h1' h2
          rw [hMe]
          k_with "stop" => (first | (with_reducible show wpAny _ _ (subscriptTail _ _ _ _) _ _ _) | (with_reducible show wpAny _ _ (eval (Expr.ListComp _ _ _ _) _) _ _ _))
          k_steps
          try exact absurd rfl (by assumption)
          · refine ⟨_, _, _, _, rfl, F18, newsSub N18 (fun q hq => memDrop 4 hq), ?_, oK, _, rfl, rfl, by assumption, rfl⟩
            exact List.forall_mem_cons.mpr ⟨hnI _ (.head _), List.forall_mem_cons.mpr ⟨hnI _ (.tail _ (.head _)), List.forall_mem_cons.mpr ⟨hnI _ (memAt 2 rfl), List.forall_mem_cons.mpr ⟨hnI _ (memAt 3 rfl), List.forall_mem_cons.mpr ⟨neL6, fun q hq => hnI q (memDrop 5 hq)⟩⟩⟩⟩⟩
  case done =>
    rintro m₁ news₁ h6 tk6 ⟨o6, v₆, e1, e2, hd6, rfl⟩ F6 N6
    k_with_none
    k_steps
    exact hQ _ _ _ F6 (fun q hq => (N6 q (memDrop 6 hq)).1)
end
section
theorem rsNeM : True := by w_top off; k_with_none; trivial
open PySem PySem.W PyProof.Rows PySem.Calls PyProof.Rows.LSm
abbrev matD (M : List (List Bool)) : List PyData := M.map fun r => PyData.list (r.map PyData.bool)
theorem lay1 : ∀ r : List Bool, PyData.canLayAll0 (r.map PyData.bool) = true
  | [] => rfl
  | _ :: r => by simp [PyData.canLayAll0, PyData.canLay0, lay1 r]
theorem dep1 : ∀ r : List Bool, PyData.depthAll (r.map PyData.bool) = 0
  | [] => rfl
  | _ :: r => by simp [PyData.depthAll, PyData.depth, dep1 r]
theorem lay2 : ∀ M : List (List Bool), PyData.canLayAll0 (matD M) = true
  | [] => rfl
  | r :: M => by
    show (PyData.canLay0 (PyData.list (r.map PyData.bool)) && PyData.canLayAll0 (matD M)) = true
    rw [lay2 M, Bool.and_true]
    exact lay1 r
theorem dep2 : ∀ M : List (List Bool), PyData.depthAll (matD M) ≤ 1
  | [] => Nat.zero_le _
  | r :: M => by
    show max (PyData.depth (PyData.list (r.map PyData.bool))) (PyData.depthAll (matD M)) ≤ 1
    have h1 : PyData.depth (PyData.list (r.map PyData.bool)) = 1 := by
      show PyData.depthAll (r.map PyData.bool) + 1 = 1
      rw [dep1]
    have := dep2 M
    omega
theorem readB {h : Heap} {vs : List Value} {bs : List Bool} (hb : BoolsAre vs bs) : ReadsAll h vs (bs.map PyData.bool) [] := by
  induction hb with
  | nil => exact ReadsAll.nil
  | cons b _ ih => exact readsAll_cons_val (Reads.bool b) ih
theorem readM {h : Heap} {rs : List (Addr × Obj)} {M : List (List Bool)} (hr : RowsAre BoolsAre rs M) : (∀ q ∈ rs, h.get? q.1 = some q.2) → ∃ as, ReadsAll h (refsOf rs) (matD M) as := by
  induction hr with
  | nil => exact fun _ => ⟨_, ReadsAll.nil⟩
  | cons hb _ ih =>
    intro hg
    obtain ⟨as, q⟩ := ih (fun q hq => hg q (.tail _ hq))
    exact ⟨_, ReadsAll.cons (reads_list_at (hg _ (.head _)) rfl rfl (by simpa [W.listOf] using readB hb)) q⟩
theorem neMat {prog : Program} {w : World} {A : Around} {E : Value → Shared → Prop} {s : Shared} {a b : Addr} {rs1 rs2 : List (Addr × Obj)} {M : List (List Bool)} {c1 c2 : Nat} {Q : Value → Shared → Prop}
    (ha : s.heap.get? a = some (listOf (refsOf rs1).toArray c1)) (hb : s.heap.get? b = some (listOf (refsOf rs2).toArray c2)) (h1 : RowsAre BoolsAre rs1 M) (h2 : RowsAre BoolsAre rs2 M) (g1 : ∀ q ∈ rs1, s.heap.get? q.1 = some q.2) (g2 : ∀ q ∈ rs2, s.heap.get? q.1 = some q.2)
    (hu : A.units + 64 < cLine) (h : Q (.bool false) s) : wpAny (model prog w) A (compareOp .NotEq (.ref a) (.ref b)) Q E s := by
  obtain ⟨as, ra⟩ := readM h1 g1
  obtain ⟨bs, rb⟩ := readM h2 g2
  have hl : PyData.canLay0 (.list (matD M)) = true := lay2 M
  have hs : SeqAt.shaped (.list (matD M)) = true := by
    unfold SeqAt.shaped
    rw [hl, Bool.true_and]
    refine decide_eq_true ?_
    show PyData.depthAll (matD M) + 1 ≤ _
    have := dep2 M
    omega
  refine ne_dataH (reads_list_at ha rfl rfl (by simpa [W.listOf] using ra)) (reads_list_at hb rfl rfl (by simpa [W.listOf] using rb)) hs hs hu ?_
  rw [PySem.SeqAt.eqv_refl _ hl]
  exact h
theorem ahd_less : ∀ t, t < 3 → ∀ b, b < 4 → ∀ t', t' < 3 → ∀ b', b' < 4 → ahd (t, b, 0) (t', b', 0) = (decide (t + b < t' + b') && decide (t ≤ t')) := by decide +kernel
def lessB (X : List Nat) (a b : Nat) : Bool := decide (nOf X a < nOf X b) && decide (tOf X a ≤ tOf X b)
theorem ahdM_less (X : List Nat) (rl : List Nat) : ahdM (rl.map fun k => (tOf X k, X.getD k 0 / 3 % 4, 97 + k)) = rl.map fun a => rl.map fun b => lessB X a b := by
  unfold ahdM
  rw [List.map_map]
  refine List.map_congr_left (fun a _ => ?_)
  simp only [Function.comp_apply]
  rw [List.map_map]
  refine List.map_congr_left (fun b _ => ?_)
  have := ahd_less (tOf X a) (by unfold tOf; omega) (X.getD a 0 / 3 % 4) (by omega) (tOf X b) (by unfold tOf; omega) (X.getD b 0 / 3 % 4) (by omega)
  exact this
end
section
theorem rsL9 : True := by w_top off; k_with_none; trivial
open PySem PySem.W PyProof.Rows PySem.Calls PyProof.Rows.LSm
variable {fa : Addr}
local macro_rules | `(tactic| k_inst) => `(tactic| (refine' instNN ?N ?a ?b; (case N => assumption); (case a => k_mem); (case b => k_mem)))
local macro_rules | `(tactic| k_inst) => `(tactic| first
  | (refine' instGL ?a ?F ?N ?m; (case a => assumption); (case F => assumption); (case N => assumption); (case m => k_mem))
  | (refine' instG ?a ?b ?k; (case a => assumption); (case b => assumption); (case k => exact Fr.keep (by assumption))))
local macro_rules | `(tactic| k_mem) => `(tactic| assumption)
theorem m_dj4 {rest : List (Addr × Obj)} {a b c d : Addr × Obj} (h1 : ∀ p ∈ rest, p.1 ≠ a.1) (h2 : ∀ p ∈ rest, p.1 ≠ b.1) (h3 : ∀ p ∈ rest, p.1 ≠ c.1) (h4 : ∀ p ∈ rest, p.1 ≠ d.1) : ∀ p ∈ rest, ∀ q ∈ [a, b, c, d], p.1 ≠ q.1 := by
  intro p hp
  exact List.forall_mem_cons.mpr ⟨h1 p hp, List.forall_mem_cons.mpr ⟨h2 p hp, List.forall_mem_cons.mpr ⟨h3 p hp, List.forall_mem_cons.mpr ⟨h4 p hp, List.forall_mem_nil _⟩⟩⟩⟩
theorem law9 {w : World} {mean : ExcName → Option Value} {mg mb : Str → Option Value} {A : Around} {g : Heap} {s : Shared} {Q : Flow → Shared → Prop} {L : Nat} {h : Heap} {tk : Nat} {m : Str → Option Value}
  {o1 o2 o3 o4 o5 o6 o7 : Obj} {x dx sr la pb lw ln md rw cr Da ca : Nat} {rs : List (Addr × Obj)} {fu fd : Nat} {up down : List Nat} {rv : List (Str × Tok)} {ps : Array Value} {tx : Str} {imm : List (Addr × Obj)} {es : List DictEntry} {t0 : Tok} {wv : List (Str × Tok)} {cw : Nat} {X : List Nat} (sc : Scope) (hsc : sc = lawD.2) (bd : List Stmt) (hbd : bd = lawD.1.drop 9)
  (F : Fr g L h m) (N : News g L h ((L + 1, o1) :: (L + 2, o2) :: (L + 3, o3) :: (L + 4, o4) :: (L + 5, o5) :: (L + 6, o6) :: (L + 7, o7) :: (180, tabObj #[]) :: (187, tabObj ps) :: (dx, dictOf es 4) :: (la, listOf #[.int (tx.cps.size : Nat) t0] 0) :: (pb, listOf #[] 0) :: (lw, listOf (strValues wv).toArray cw) :: (rw, listOf (strValues rv).toArray cr) :: imm))
  (hm : m (Str.ofString "ahead") = some (.ref Da))
  (hd1 : o1.data = .cell (some (.ref x))) (hd2 : o2.data = .cell (some (.ref rw))) (hd3 : o3.data = .cell none) (hd4 : o4.data = .cell none) (hd5 : o5.data = .cell none) (hd6 : o6.data = .cell none) (hd7 : o7.data = .cell (some (.ref md)))
  (hes : LxEs w.params ln sr pb es) (hlx : ∀ g', (∀ q ∈ imm, g'.get? q.1 = some q.2) → LexAt w g' x dx sr la tx) (w1 : @LT.lt Nat _ 187 L) (w2 : @LT.lt Nat _ (L + 7) lw) (w3 : @LT.lt Nat _ lw dx) (w4 : @LT.lt Nat _ lw la) (w5 : @LT.lt Nat _ lw pb) (w6 : @Ne Nat dx la) (w7 : @Ne Nat dx pb) (w8 : @Ne Nat la pb) (hni : ∀ q ∈ imm, ∀ a ∈ ([L + 1, L + 2, L + 3, L + 4, L + 5, L + 6, L + 7, 180, 187, dx, la, pb, lw, rw] : List Addr), q.1 ≠ a) (hmk : ∀ g', (∀ q ∈ imm, g'.get? q.1 = some q.2) → MkAt w g' md X) (hrv : rv.map (·.1) = (insRow X X.length).map (fun k => wstr X (some k))) (hrw : @LT.lt Nat _ lw rw ∧ @LT.lt Nat _ dx rw ∧ @LT.lt Nat _ la rw ∧ @LT.lt Nat _ pb rw) (hDi : (Da, listOf (refsOf rs).toArray ca) ∈ imm) (hRi : ∀ q ∈ rs, q ∈ imm) (hrs : RowsAre BoolsAre rs ((insRow X X.length).map fun a => (insRow X X.length).map fun b => lessB X a b)) (hX : X.length = 5 ∨ X.length = 6) (hX24 : ∀ i, i < X.length → X.getD i 0 < 24)
  (G : Gr w mean mg mb (A.deeper (lawE fa sc L)) 20 g) (C1 : CodeHd g 184 180) (C3 : CodeHd g 189 187)
  (hup : runF true (nOf X) fu ((insRow X X.length).map some ++ [none]) [] [] false = some up) (hdown : runF false (nOf X) fd ((insRow X X.length).reverse.map some ++ [none]) [] [] false = some down) (hfu : fu ≤ 10000) (hfd : fd ≤ 10000) (hul : up.length ≤ 20000) (hdl : down.length ≤ 20000)
  (hlu : ∀ k, 1 ≤ k → k ≤ X.length → LawK (tabC ((insRow X X.length).map fun a => (insRow X X.length).map fun b => lessB X a b) X.length).1 (tabC ((insRow X X.length).map fun a => (insRow X X.length).map fun b => lessB X a b) X.length).2.2 up k) (hld : ∀ k, 1 ≤ k → k ≤ X.length → LawK (tabC ((insRow X X.length).map fun a => (insRow X X.length).map fun b => lessB X a b) X.length).1 (tabC ((insRow X X.length).map fun a => (insRow X X.length).map fun b => lessB X a b) X.length).2.1 down k)
  (hQ : ∀ h' tk' m', Fr g L h' m' → GrownAt 180 h' → GrownAt 187 h' → Q (.ret (.bool true)) { s with heap := h', toks := tk' }) :
  wpAny (model VW w) (A.deeper (lawE fa sc L)) (execs bd (lawE fa sc L)) Q (fun _ _ => False) { s with heap := h, toks := tk } := by
  conv at hsc => rhs; whnf
  conv at hbd => rhs; whnf
  subst hsc
  subst hbd
  obtain ⟨hdlA, dp, fr, gd, un⟩ := A
  obtain rfl : hdlA = none := G.hh
  have wlF := litOf w1 w2 w3 w4 w5
  have X' := G.X
  have T' := G.T
  obtain ⟨r1, r2, r3, r4⟩ := hrw
  have k1 : @LT.lt Nat _ 187 rw := Nat.lt_trans wlF.c1 r1
  have k2 : @LT.lt Nat _ (L + 7) rw := Nat.lt_trans w2 r1
  obtain ⟨rl, hrl0⟩ : ∃ rl, rl = insRow X X.length := ⟨_, rfl⟩
  rw [← hrl0] at hrv hrs hup hdown hlu hld
  have hrll : rl.length = X.length := by rw [hrl0, insRow_len]
  have hrX : ∀ k ∈ rl, k < X.length := by rw [hrl0]; exact insRow_lt X _
  have hrl : rv.length = X.length := by have := congrArg List.length hrv; simpa [hrll] using this
  obtain ⟨M, hM⟩ : ∃ M, M = rl.map fun a => rl.map fun b => lessB X a b := ⟨_, rfl⟩
  rw [← hM] at hrs hlu hld
  have hMl : M.length = X.length := by rw [hM, List.length_map, hrll]
  replace F := Fr.as F [(Str.ofString "ahead", .ref Da)] (List.forall_mem_cons.mpr ⟨hm, List.forall_mem_nil _⟩)
  k_with "stop" => (with_reducible show wpAny _ _ (call (Value.ref _) _ _) _ _ _)
  k_steps
  k_with_none
  rename Fr _ _ _ _ => F1
  rename News _ _ _ _ => N1
  refine callOn F1 N1 [] _ (fun _ h => nomatch h) (fun _ h => h) (fun _ _ _ h => nomatch h) (fun g' st' sz' O' hg' hk' => ?_)
  have hgi : ∀ q ∈ imm, g'.get? q.1 = some q.2 := fun q hq => hg' q (memDrop 14 hq)
  refine lawChoices (M := M) O' ((G.keeps st').le (by omega)) ⟨_, hgi _ hDi, rfl, ca, rfl⟩ hrs (fun q hq => hgi q (hRi q hq)) (by omega) (fun r hr => ?_) ?_
  · rw [hM] at hr
    obtain ⟨a, _, rfl⟩ := List.mem_map.mp hr
    rw [List.length_map, hMl, hrll]
  intro T ls ln2 lp cs cn cp vs vn vp h2 tk2 hvs hvn hvp O2
  refine ⟨_, h2, tk2, _, rfl, rfl, O2, fun F2 N2 => ?_⟩
  have dj := djOf O2 hg'
  rw [hMl] at hvs hvn hvp
  clear hg' hk' O' O2 F1 N1 hgi
  dsimp only [List.cons_append, List.nil_append] at N2
  obtain ⟨im4, him4⟩ : ∃ im4, im4 = (T, ({ cls := .type "tuple", data := .seq #[.ref ls, .ref ln2, .ref lp] } : Obj)) :: (ls, listOf vs.toArray cs) :: (ln2, listOf vn.toArray cn) :: (lp, listOf vp.toArray cp) :: imm := ⟨_, rfl⟩
  have hni4 : ∀ q ∈ im4, ∀ a ∈ ([L + 1, L + 2, L + 3, L + 4, L + 5, L + 6, L + 7, 180, 187, dx, la, pb, lw, rw] : List Addr), q.1 ≠ a := by
    have hh : ∀ q ∈ [(T, ({ cls := .type "tuple", data := .seq #[.ref ls, .ref ln2, .ref lp] } : Obj)), (ls, listOf vs.toArray cs), (ln2, listOf vn.toArray cn), (lp, listOf vp.toArray cp)], ∀ a ∈ ([L + 1, L + 2, L + 3, L + 4, L + 5, L + 6, L + 7, 180, 187, dx, la, pb, lw, rw] : List Addr), q.1 ≠ a := by
      intro q hq a ha
      have d := dj q hq
      have e : ∃ o, (a, o) ∈ (L + 1, o1) :: (L + 2, o2) :: (L + 3, o3) :: (L + 4, o4) :: (L + 5, o5) :: (L + 6, o6) :: (L + 7, o7) :: (180, tabObj #[]) :: (187, tabObj ps) :: (dx, dictOf es 4) :: (la, listOf #[.int (tx.cps.size : Nat) t0] 0) :: (pb, listOf #[] 0) :: (lw, listOf (strValues wv).toArray cw) :: (rw, listOf (strValues rv).toArray cr) :: imm := by
        simp only [List.mem_cons, List.not_mem_nil, or_false] at ha
        rcases ha with rfl | rfl | rfl | rfl | rfl | rfl | rfl | rfl | rfl | rfl | rfl | rfl | rfl | rfl <;> exact ⟨_, by k_mem⟩
      obtain ⟨o, ho⟩ := e
      exact Ne.symm (d (a, o) ho)
    rw [him4]
    intro q hq
    rcases List.mem_cons.mp hq with rfl | hq
    · exact hh _ (.head _)
    rcases List.mem_cons.mp hq with rfl | hq
    · exact hh _ (.tail _ (.head _))
    rcases List.mem_cons.mp hq with rfl | hq
    · exact hh _ (memAt 2 rfl)
    rcases List.mem_cons.mp hq with rfl | hq
    · exact hh _ (memAt 3 rfl)
    · exact hni q hq
  have hT4 : (T, ({ cls := .type "tuple", data := .seq #[.ref ls, .ref ln2, .ref lp] } : Obj)) ∈ im4 := by rw [him4]; exact .head _
  have hls4 : (ls, listOf vs.toArray cs) ∈ im4 := by rw [him4]; exact .tail _ (.head _)
  have hln4 : (ln2, listOf vn.toArray cn) ∈ im4 := by rw [him4]; exact memAt 2 rfl
  have hlp4 : (lp, listOf vp.toArray cp) ∈ im4 := by rw [him4]; exact memAt 3 rfl
  have him : ∀ q ∈ imm, q ∈ im4 := fun q hq => by rw [him4]; exact memDrop 4 hq
  replace N2 : News g _ _ ((L + 1, o1) :: (L + 2, o2) :: (L + 3, o3) :: (L + 4, o4) :: (L + 5, o5) :: (L + 6, o6) :: (L + 7, o7) :: (180, tabObj #[]) :: (187, tabObj ps) :: (dx, dictOf es 4) :: (la, listOf #[.int (tx.cps.size : Nat) t0] 0) :: (pb, listOf #[] 0) :: (lw, listOf (strValues wv).toArray cw) :: (rw, listOf (strValues rv).toArray cr) :: im4) := newsSub N2 (by
    rw [him4]
    exact List.forall_mem_cons.mpr ⟨memAt 4 rfl, List.forall_mem_cons.mpr ⟨memAt 5 rfl, List.forall_mem_cons.mpr ⟨memAt 6 rfl, List.forall_mem_cons.mpr ⟨memAt 7 rfl, List.forall_mem_cons.mpr ⟨memAt 8 rfl, List.forall_mem_cons.mpr ⟨memAt 9 rfl, List.forall_mem_cons.mpr ⟨memAt 10 rfl, List.forall_mem_cons.mpr ⟨memAt 11 rfl, List.forall_mem_cons.mpr ⟨memAt 12 rfl, List.forall_mem_cons.mpr ⟨memAt 13 rfl, List.forall_mem_cons.mpr ⟨memAt 14 rfl, List.forall_mem_cons.mpr ⟨memAt 15 rfl, List.forall_mem_cons.mpr ⟨memAt 16 rfl, List.forall_mem_cons.mpr ⟨memAt 17 rfl, List.forall_mem_cons.mpr ⟨.head _, List.forall_mem_cons.mpr ⟨.tail _ (.head _), List.forall_mem_cons.mpr ⟨memAt 2 rfl, List.forall_mem_cons.mpr ⟨memAt 3 rfl, fun q hq => memDrop 18 hq⟩⟩⟩⟩⟩⟩⟩⟩⟩⟩⟩⟩⟩⟩⟩⟩⟩⟩)
  have n3 : ∀ q ∈ im4, q.1 ≠ L + 3 := fun q hq => hni4 q hq _ (by simp)
  have n4 : ∀ q ∈ im4, q.1 ≠ L + 4 := fun q hq => hni4 q hq _ (by simp)
  have n5 : ∀ q ∈ im4, q.1 ≠ L + 5 := fun q hq => hni4 q hq _ (by simp)
  have n6 : ∀ q ∈ im4, q.1 ≠ L + 6 := fun q hq => hni4 q hq _ (by simp)
  clear dj
  k_with "stop" => (with_reducible show wpAny _ _ (call (Value.ref _) _ _) _ _ _)
  k_steps
  k_with_none
  rename News _ _ _ _ => N3
  rename Fr _ _ _ _ => F3
  obtain ⟨o3', o4', o5', hd3', hd4', hd5', N3⟩ : ∃ o3' o4' o5' : Obj, o3'.data = .cell (some (.ref ls)) ∧ o4'.data = .cell (some (.ref ln2)) ∧ o5'.data = .cell (some (.ref lp)) ∧ News g L _ ((L + 1, o1) :: (L + 2, o2) :: (L + 3, o3') :: (L + 4, o4') :: (L + 5, o5') :: (L + 6, o6) :: (L + 7, o7) :: (180, tabObj #[]) :: (187, tabObj ps) :: (dx, dictOf es 4) :: (la, listOf #[.int (tx.cps.size : Nat) t0] 0) :: (pb, listOf #[] 0) :: (lw, listOf (strValues wv).toArray cw) :: (rw, listOf (strValues rv).toArray cr) :: im4) := ⟨_, _, _, by assumption, by assumption, by assumption, N3⟩
  have q1 : ∀ q ∈ im4, q.1 ≠ dx := fun q hq => hni4 q hq _ (by simp)
  have q2 : ∀ q ∈ im4, q.1 ≠ la := fun q hq => hni4 q hq _ (by simp)
  have q3 : ∀ q ∈ im4, q.1 ≠ pb := fun q hq => hni4 q hq _ (by simp)
  have q4 : ∀ q ∈ im4, q.1 ≠ 180 := fun q hq => hni4 q hq _ (by simp)
  refine' callOn F3 N3 [(dx, dictOf es 4), (la, listOf #[.int (tx.cps.size : Nat) t0] 0), (pb, listOf #[] 0), (180, tabObj #[])] ((L + 1, o1) :: (L + 2, o2) :: (L + 3, o3') :: (L + 4, o4') :: (L + 5, o5') :: (L + 6, o6) :: (L + 7, o7) :: (187, tabObj ps) :: (lw, listOf (strValues wv).toArray cw) :: (rw, listOf (strValues rv).toArray cr) :: im4) ?hu ?hr ?dj ?_
  case hu => exact List.forall_mem_cons.mpr ⟨by k_mem, List.forall_mem_cons.mpr ⟨by k_mem, List.forall_mem_cons.mpr ⟨by k_mem, List.forall_mem_cons.mpr ⟨by k_mem, List.forall_mem_nil _⟩⟩⟩⟩
  case hr => exact List.forall_mem_cons.mpr ⟨by k_mem, List.forall_mem_cons.mpr ⟨by k_mem, List.forall_mem_cons.mpr ⟨by k_mem, List.forall_mem_cons.mpr ⟨by k_mem, List.forall_mem_cons.mpr ⟨by k_mem, List.forall_mem_cons.mpr ⟨by k_mem, List.forall_mem_cons.mpr ⟨by k_mem, List.forall_mem_cons.mpr ⟨by k_mem, List.forall_mem_cons.mpr ⟨by k_mem, List.forall_mem_cons.mpr ⟨by k_mem, fun q hq => memDrop 14 hq⟩⟩⟩⟩⟩⟩⟩⟩⟩⟩
  case dj => exact m_dj4 (List.forall_mem_cons.mpr ⟨by k_ne, List.forall_mem_cons.mpr ⟨by k_ne, List.forall_mem_cons.mpr ⟨by k_ne, List.forall_mem_cons.mpr ⟨by k_ne, List.forall_mem_cons.mpr ⟨by k_ne, List.forall_mem_cons.mpr ⟨by k_ne, List.forall_mem_cons.mpr ⟨by k_ne, List.forall_mem_cons.mpr ⟨by k_ne, List.forall_mem_cons.mpr ⟨by k_ne, List.forall_mem_cons.mpr ⟨by k_ne, q1⟩⟩⟩⟩⟩⟩⟩⟩⟩⟩) (List.forall_mem_cons.mpr ⟨by k_ne, List.forall_mem_cons.mpr ⟨by k_ne, List.forall_mem_cons.mpr ⟨by k_ne, List.forall_mem_cons.mpr ⟨by k_ne, List.forall_mem_cons.mpr ⟨by k_ne, List.forall_mem_cons.mpr ⟨by k_ne, List.forall_mem_cons.mpr ⟨by k_ne, List.forall_mem_cons.mpr ⟨by k_ne, List.forall_mem_cons.mpr ⟨by k_ne, List.forall_mem_cons.mpr ⟨by k_ne, q2⟩⟩⟩⟩⟩⟩⟩⟩⟩⟩) (List.forall_mem_cons.mpr ⟨by k_ne, List.forall_mem_cons.mpr ⟨by k_ne, List.forall_mem_cons.mpr ⟨by k_ne, List.forall_mem_cons.mpr ⟨by k_ne, List.forall_mem_cons.mpr ⟨by k_ne, List.forall_mem_cons.mpr ⟨by k_ne, List.forall_mem_cons.mpr ⟨by k_ne, List.forall_mem_cons.mpr ⟨by k_ne, List.forall_mem_cons.mpr ⟨by k_ne, List.forall_mem_cons.mpr ⟨by k_ne, q3⟩⟩⟩⟩⟩⟩⟩⟩⟩⟩) (List.forall_mem_cons.mpr ⟨by k_ne, List.forall_mem_cons.mpr ⟨by k_ne, List.forall_mem_cons.mpr ⟨by k_ne, List.forall_mem_cons.mpr ⟨by k_ne, List.forall_mem_cons.mpr ⟨by k_ne, List.forall_mem_cons.mpr ⟨by k_ne, List.forall_mem_cons.mpr ⟨by k_ne, List.forall_mem_cons.mpr ⟨by k_ne, List.forall_mem_cons.mpr ⟨by k_ne, List.forall_mem_cons.mpr ⟨by k_ne, q4⟩⟩⟩⟩⟩⟩⟩⟩⟩⟩)
  intro g' st' sz' O' hg' hk'
  have hgi : ∀ q ∈ im4, g'.get? q.1 = some q.2 := fun q hq => hg' q (memDrop 10 hq)
  have hmk' := hmk g' (fun q hq => hgi q (him q hq))
  have hlx' := hlx g' (fun q hq => hgi q (him q hq))
  have hrv2 : rv.map (·.1) = (rl.map some).map (wstr X) := by rw [hrv, List.map_map]; rfl
  refine lawRun (rwl := rl) (X := X) (fuel := fu) (out := up) hlx' hes w6 w7 w8 (neN (by omega)) (neN (by omega)) (neN (by omega)) O' ((G.keeps st').le (by omega)) (C1.keeps st') ⟨_, hg' (rw, listOf (strValues rv).toArray cr) (memAt 9 rfl), rfl, cr, rfl⟩ hrv2 (by omega) hrX (by omega) hmk' (codes := []) (fun _ h => nomatch h) TabOk.nil hfu hup ?_
  intro h5 tk5 es5 t5 cb5 ps5 nc5 Du vu cu hes5 hvu htab5 O5 hne5
  refine ⟨_, h5, tk5, _, rfl, rfl, O5, fun F5 N5 => ?_⟩
  have dj := djOf O5 hg'
  rw [List.append_nil] at htab5
  clear hg' hk' O' O5 hgi hmk' hlx' F3 N3
  dsimp only [List.cons_append, List.nil_append] at N5
  obtain ⟨im5, him5⟩ : ∃ im5, im5 = (Du, listOf vu.toArray cu) :: (nc5 ++ im4) := ⟨_, rfl⟩
  have hni5 : ∀ q ∈ im5, ∀ a ∈ ([L + 1, L + 2, L + 3, L + 4, L + 5, L + 6, L + 7, 180, 187, dx, la, pb, lw, rw] : List Addr), q.1 ≠ a := by
    have hh : ∀ q ∈ (Du, listOf vu.toArray cu) :: nc5, ∀ a ∈ ([L + 1, L + 2, L + 3, L + 4, L + 5, L + 6, L + 7, 180, 187, dx, la, pb, lw, rw] : List Addr), q.1 ≠ a := by
      intro q hq a ha
      have d := dj q (memDrop 4 hq)
      have e := hne5 q hq
      simp only [List.mem_cons, List.not_mem_nil, or_false] at ha
      rcases ha with h0 | h0 | h0 | h0 | h0 | h0 | h0 | h0 | h0 | h0 | h0 | h0 | h0 | h0 <;> rw [h0]
      · exact Ne.symm (d (L + 1, o1) (by k_mem))
      · exact Ne.symm (d (L + 2, o2) (by k_mem))
      · exact Ne.symm (d (L + 3, o3') (by k_mem))
      · exact Ne.symm (d (L + 4, o4') (by k_mem))
      · exact Ne.symm (d (L + 5, o5') (by k_mem))
      · exact Ne.symm (d (L + 6, o6) (by k_mem))
      · exact Ne.symm (d (L + 7, o7) (by k_mem))
      · exact e.2.2.2
      · exact Ne.symm (d (187, tabObj ps) (by k_mem))
      · exact e.1
      · exact e.2.1
      · exact e.2.2.1
      · exact Ne.symm (d (lw, listOf (strValues wv).toArray cw) (by k_mem))
      · exact Ne.symm (d (rw, listOf (strValues rv).toArray cr) (by k_mem))
    rw [him5]
    intro q hq
    rcases List.mem_cons.mp hq with rfl | hq
    · exact hh _ (.head _)
    rcases List.mem_append.mp hq with hq | hq
    · exact hh q (.tail _ hq)
    · exact hni4 q hq
  have hi5 : ∀ q ∈ im4, q ∈ im5 := fun q hq => by rw [him5]; exact .tail _ (List.mem_append_right _ hq)
  have hD5 : (Du, listOf vu.toArray cu) ∈ im5 := by rw [him5]; exact .head _
  have hnc5 : ∀ q ∈ nc5, q ∈ im5 := fun q hq => by rw [him5]; exact .tail _ (List.mem_append_left _ hq)
  replace N5 : News g _ _ ((L + 1, o1) :: (L + 2, o2) :: (L + 3, o3') :: (L + 4, o4') :: (L + 5, o5') :: (L + 6, o6) :: (L + 7, o7) :: (180, tabObj ps5) :: (187, tabObj ps) :: (dx, dictOf es5 4) :: (la, listOf #[.int (tx.cps.size : Nat) t5] 0) :: (pb, listOf #[] cb5) :: (lw, listOf (strValues wv).toArray cw) :: (rw, listOf (strValues rv).toArray cr) :: im5) := newsSub N5 (by
    rw [him5]
    refine List.forall_mem_cons.mpr ⟨memDrop 5 (List.mem_append_right _ (.head _)), List.forall_mem_cons.mpr ⟨memDrop 5 (List.mem_append_right _ (.tail _ (.head _))), List.forall_mem_cons.mpr ⟨memDrop 5 (List.mem_append_right _ (memAt 2 rfl)), List.forall_mem_cons.mpr ⟨memDrop 5 (List.mem_append_right _ (memAt 3 rfl)), List.forall_mem_cons.mpr ⟨memDrop 5 (List.mem_append_right _ (memAt 4 rfl)), List.forall_mem_cons.mpr ⟨memDrop 5 (List.mem_append_right _ (memAt 5 rfl)), List.forall_mem_cons.mpr ⟨memDrop 5 (List.mem_append_right _ (memAt 6 rfl)), List.forall_mem_cons.mpr ⟨memAt 3 rfl, List.forall_mem_cons.mpr ⟨memDrop 5 (List.mem_append_right _ (memAt 7 rfl)), List.forall_mem_cons.mpr ⟨.head _, List.forall_mem_cons.mpr ⟨.tail _ (.head _), List.forall_mem_cons.mpr ⟨memAt 2 rfl, List.forall_mem_cons.mpr ⟨memDrop 5 (List.mem_append_right _ (memAt 8 rfl)), List.forall_mem_cons.mpr ⟨memDrop 5 (List.mem_append_right _ (memAt 9 rfl)), List.forall_mem_cons.mpr ⟨memAt 4 rfl, fun q hq => ?_⟩⟩⟩⟩⟩⟩⟩⟩⟩⟩⟩⟩⟩⟩⟩
    rcases List.mem_append.mp hq with hq | hq
    · exact memDrop 5 (List.mem_append_left _ hq)
    · exact memDrop 5 (List.mem_append_right _ (memDrop 10 hq)))
  clear dj hne5
  k_with "stop" => (with_reducible show wpAny _ _ (subscriptTail _ _ _ _) _ _ _)
  k_steps
  k_with_none
  rename News _ _ _ _ => N6
  rename Fr _ _ _ _ => F6
  have hrev : (strValues rv).reverse = strValues rv.reverse := by unfold strValues; rw [List.map_reverse]
  refine' krv_lit (zs := strValues rv.reverse) F6 N6 (isListN N6 (l := rw) (items := (strValues rv).toArray) (c := cr) (by k_mem)) (IsPart.int _ _) hrev ?_ ?hs ?ht ?hz
  case hs => with_unfolding_all rfl
  case ht => kmk_pure
  case hz => rw [List.size_toArray, sizeLine_eq]; simp [strValues]; omega
  intro Rv h7 F7 N7 l7
  clear N6 F6
  k_with "stop" => (with_reducible show wpAny _ _ (call (Value.ref _) _ _) _ _ _)
  k_steps
  k_with_none
  rename News _ _ _ _ => N8
  rename Fr _ _ _ _ => F8
  have l7' := allLt_of l7
  simp only [AllLt] at l7'
  have p1 : ∀ q ∈ im5, q.1 ≠ dx := fun q hq => hni5 q hq _ (by simp)
  have p2 : ∀ q ∈ im5, q.1 ≠ la := fun q hq => hni5 q hq _ (by simp)
  have p3 : ∀ q ∈ im5, q.1 ≠ pb := fun q hq => hni5 q hq _ (by simp)
  have p4 : ∀ q ∈ im5, q.1 ≠ 180 := fun q hq => hni5 q hq _ (by simp)
  refine' callOn F8 N8 [(dx, dictOf es5 4), (la, listOf #[.int (tx.cps.size : Nat) t5] 0), (pb, listOf #[] cb5), (180, tabObj ps5)] ((Rv, listOf (strValues rv.reverse).toArray 0) :: (L + 1, o1) :: (L + 2, o2) :: (L + 3, o3') :: (L + 4, o4') :: (L + 5, o5') :: (L + 6, o6) :: (L + 7, o7) :: (187, tabObj ps) :: (lw, listOf (strValues wv).toArray cw) :: (rw, listOf (strValues rv).toArray cr) :: im5) ?hu2 ?hr2 ?dj2 ?_
  case hu2 => exact List.forall_mem_cons.mpr ⟨by k_mem, List.forall_mem_cons.mpr ⟨by k_mem, List.forall_mem_cons.mpr ⟨by k_mem, List.forall_mem_cons.mpr ⟨by k_mem, List.forall_mem_nil _⟩⟩⟩⟩
  case hr2 => exact List.forall_mem_cons.mpr ⟨by k_mem, List.forall_mem_cons.mpr ⟨by k_mem, List.forall_mem_cons.mpr ⟨by k_mem, List.forall_mem_cons.mpr ⟨by k_mem, List.forall_mem_cons.mpr ⟨by k_mem, List.forall_mem_cons.mpr ⟨by k_mem, List.forall_mem_cons.mpr ⟨by k_mem, List.forall_mem_cons.mpr ⟨by k_mem, List.forall_mem_cons.mpr ⟨by k_mem, List.forall_mem_cons.mpr ⟨by k_mem, List.forall_mem_cons.mpr ⟨by k_mem, fun q hq => memDrop 15 hq⟩⟩⟩⟩⟩⟩⟩⟩⟩⟩⟩
  case dj2 => exact m_dj4 (List.forall_mem_cons.mpr ⟨by k_ne, List.forall_mem_cons.mpr ⟨by k_ne, List.forall_mem_cons.mpr ⟨by k_ne, List.forall_mem_cons.mpr ⟨by k_ne, List.forall_mem_cons.mpr ⟨by k_ne, List.forall_mem_cons.mpr ⟨by k_ne, List.forall_mem_cons.mpr ⟨by k_ne, List.forall_mem_cons.mpr ⟨by k_ne, List.forall_mem_cons.mpr ⟨by k_ne, List.forall_mem_cons.mpr ⟨by k_ne, List.forall_mem_cons.mpr ⟨by k_ne, p1⟩⟩⟩⟩⟩⟩⟩⟩⟩⟩⟩) (List.forall_mem_cons.mpr ⟨by k_ne, List.forall_mem_cons.mpr ⟨by k_ne, List.forall_mem_cons.mpr ⟨by k_ne, List.forall_mem_cons.mpr ⟨by k_ne, List.forall_mem_cons.mpr ⟨by k_ne, List.forall_mem_cons.mpr ⟨by k_ne, List.forall_mem_cons.mpr ⟨by k_ne, List.forall_mem_cons.mpr ⟨by k_ne, List.forall_mem_cons.mpr ⟨by k_ne, List.forall_mem_cons.mpr ⟨by k_ne, List.forall_mem_cons.mpr ⟨by k_ne, p2⟩⟩⟩⟩⟩⟩⟩⟩⟩⟩⟩) (List.forall_mem_cons.mpr ⟨by k_ne, List.forall_mem_cons.mpr ⟨by k_ne, List.forall_mem_cons.mpr ⟨by k_ne, List.forall_mem_cons.mpr ⟨by k_ne, List.forall_mem_cons.mpr ⟨by k_ne, List.forall_mem_cons.mpr ⟨by k_ne, List.forall_mem_cons.mpr ⟨by k_ne, List.forall_mem_cons.mpr ⟨by k_ne, List.forall_mem_cons.mpr ⟨by k_ne, List.forall_mem_cons.mpr ⟨by k_ne, List.forall_mem_cons.mpr ⟨by k_ne, p3⟩⟩⟩⟩⟩⟩⟩⟩⟩⟩⟩) (List.forall_mem_cons.mpr ⟨by k_ne, List.forall_mem_cons.mpr ⟨by k_ne, List.forall_mem_cons.mpr ⟨by k_ne, List.forall_mem_cons.mpr ⟨by k_ne, List.forall_mem_cons.mpr ⟨by k_ne, List.forall_mem_cons.mpr ⟨by k_ne, List.forall_mem_cons.mpr ⟨by k_ne, List.forall_mem_cons.mpr ⟨by k_ne, List.forall_mem_cons.mpr ⟨by k_ne, List.forall_mem_cons.mpr ⟨by k_ne, List.forall_mem_cons.mpr ⟨by k_ne, p4⟩⟩⟩⟩⟩⟩⟩⟩⟩⟩⟩)
  intro g' st' sz' O' hg' hk'
  have hgi : ∀ q ∈ im5, g'.get? q.1 = some q.2 := fun q hq => hg' q (memDrop 11 hq)
  have hmk' := hmk g' (fun q hq => hgi q (hi5 q (him q hq)))
  have hlx' := hlx g' (fun q hq => hgi q (hi5 q (him q hq)))
  have hrv3 : rv.reverse.map (·.1) = (rl.reverse.map some).map (wstr X) := by rw [List.map_reverse, hrv, List.map_reverse, List.map_reverse, List.map_map]; rfl
  refine lawRun (rwl := rl.reverse) (X := X) (fuel := fd) (out := down) hlx' hes5 w6 w7 w8 (neN (by omega)) (neN (by omega)) (neN (by omega)) O' ((G.keeps st').le (by omega)) (C1.keeps st') ⟨_, hg' (Rv, listOf (strValues rv.reverse).toArray 0) (.head _), rfl, 0, rfl⟩ hrv3 (by omega) (fun k hk => hrX k (List.mem_reverse.mp hk)) (by rw [List.length_reverse]; omega) hmk' (codes := nc5) (fun q hq => hgi q (hnc5 q hq)) htab5 hfd hdown ?_
  intro h9 tk9 es6 t6 cb6 ps6 nc6 Dd vd cd hes6 hvd htab6 O9 hne6
  refine ⟨_, h9, tk9, _, rfl, rfl, O9, fun F9 N9 => ?_⟩
  have dj := djOf O9 hg'
  have n6d : ∀ q ∈ (Dd, listOf vd.toArray cd) :: nc6, q.1 ≠ L + 6 := fun q hq => Ne.symm (dj q (memDrop 4 hq) (L + 6, o6) (by k_mem))
  clear hg' hk' O' O9 hgi hmk' hlx' F8 N8 dj
  dsimp only [List.cons_append, List.nil_append] at N9
  obtain ⟨im6, him6⟩ : ∃ im6, im6 = (180, tabObj ps6) :: (187, tabObj ps) :: (Dd, listOf vd.toArray cd) :: (nc6 ++ im5) := ⟨_, rfl⟩
  have n66 : ∀ q ∈ im6, q.1 ≠ L + 6 := by
    rw [him6]
    intro q hq
    rcases List.mem_cons.mp hq with rfl | hq
    · exact neN (by dsimp only; omega)
    rcases List.mem_cons.mp hq with rfl | hq
    · exact neN (by dsimp only; omega)
    rcases List.mem_cons.mp hq with rfl | hq
    · exact n6d _ (.head _)
    rcases List.mem_append.mp hq with hq | hq
    · exact n6d q (.tail _ hq)
    · exact hni5 q hq _ (by simp)
  have hi6 : ∀ q ∈ im5, q ∈ im6 := fun q hq => by rw [him6]; exact memDrop 3 (List.mem_append_right _ hq)
  have hDd : (Dd, listOf vd.toArray cd) ∈ im6 := by rw [him6]; exact memAt 2 rfl
  have h180 : (180, tabObj ps6) ∈ im6 := by rw [him6]; exact .head _
  have h187 : (187, tabObj ps) ∈ im6 := by rw [him6]; exact .tail _ (.head _)
  replace N9 : News g _ _ ((L + 2, o2) :: (L + 3, o3') :: (L + 4, o4') :: (L + 5, o5') :: (L + 6, o6) :: (rw, listOf (strValues rv).toArray cr) :: im6) := newsSub N9 (by
    rw [him6]
    refine List.forall_mem_cons.mpr ⟨memDrop 5 (List.mem_append_right _ (memAt 2 rfl)), List.forall_mem_cons.mpr ⟨memDrop 5 (List.mem_append_right _ (memAt 3 rfl)), List.forall_mem_cons.mpr ⟨memDrop 5 (List.mem_append_right _ (memAt 4 rfl)), List.forall_mem_cons.mpr ⟨memDrop 5 (List.mem_append_right _ (memAt 5 rfl)), List.forall_mem_cons.mpr ⟨memDrop 5 (List.mem_append_right _ (memAt 6 rfl)), List.forall_mem_cons.mpr ⟨memDrop 5 (List.mem_append_right _ (memAt 10 rfl)), List.forall_mem_cons.mpr ⟨memAt 3 rfl, List.forall_mem_cons.mpr ⟨memDrop 5 (List.mem_append_right _ (memAt 8 rfl)), List.forall_mem_cons.mpr ⟨memAt 4 rfl, fun q hq => ?_⟩⟩⟩⟩⟩⟩⟩⟩⟩
    rcases List.mem_append.mp hq with hq | hq
    · exact memDrop 5 (List.mem_append_left _ hq)
    · exact memDrop 5 (List.mem_append_right _ (memDrop 11 hq)))
  k_with "stop" => (with_reducible show wpAny _ _ (execs (Stmt.For _ _ _ _ _ :: _) _) _ _ _)
  k_steps
  rename News _ _ _ _ => N10
  rename Fr _ _ _ _ => F10
  obtain ⟨z1, z2, z3⟩ := tabC_len (M := M) X.length
  have z4 : 2 ^ X.length ≤ 2 ^ 6 := Nat.pow_le_pow_right (by decide) (by omega)
  have z5 : (2 : Nat) ^ 6 = 64 := by decide
  refine law12 (imm := im6) _ rfl _ rfl F10 N10 rfl rfl hd2 hd3' hd4' hd5' hd6 (hi6 _ hD5) hDd (hi6 _ (hi5 _ hls4)) (hi6 _ (hi5 _ hln4)) (hi6 _ (hi5 _ hlp4)) hvu hvd hvs hvn hvp (by rw [z1, z2]) (by rw [z1, z3]) (by rw [z1]; omega) hul hdl ?_ (by omega : X.length ≤ 6) (by omega) n66 hlu hld G (fun h' tk' m' F' k' => hQ h' tk' m' F' ⟨_, k' _ h180⟩ ⟨_, k' _ h187⟩)
  unfold strValues
  rw [List.length_map, hrl]
end
section
theorem rsGs : True := by w_top off; k_with_none; trivial
open PySem PySem.W PyProof.Rows PySem.Calls PyProof.Rows.LSm
/-- like numbers come in this order of their places -/
def ordR (b : Bool) (i j : Nat) : Prop := if b then i < j else j < i
/-- l tells of the places what v tells of the items -/
structure SimR (v : Nat → Nat) (r l : Nat → Nat) (n : Nat) : Prop where
  lt : ∀ i j, i < n → j < n → v (r i) < v (r j) → l i < l j
  eq : ∀ i j, i < n → j < n → v (r i) = v (r j) → i < j → l j < l i
def cmpR (b : Bool) (x y : Nat) : Bool := if b then decide (x < y) else decide (x ≤ y)
theorem tw_congr {p q : Nat → Bool} : ∀ {l : List Nat}, (∀ x ∈ l, p x = q x) → l.takeWhile p = l.takeWhile q
  | [], _ => rfl
  | a :: l, h => by
    rw [List.takeWhile_cons, List.takeWhile_cons, h a (.head _), tw_congr fun x hx => h x (.tail _ hx)]
theorem tw_map {p : Nat → Bool} {r : Nat → Nat} : ∀ {l : List Nat}, ((l.map r).takeWhile p).length = (l.takeWhile fun x => p (r x)).length
  | [] => rfl
  | a :: l => by
    rw [List.map_cons, List.takeWhile_cons, List.takeWhile_cons]
    split
    · rw [List.length_cons, List.length_cons, tw_map]
    · rfl
theorem tw_split {p : Nat → Bool} : ∀ (l : List Nat), (∀ x ∈ l, p x = true) ∧ (l.takeWhile p).length = l.length ∨ ∃ s b t, l = s ++ b :: t ∧ (∀ x ∈ s, p x = true) ∧ p b = false ∧ (l.takeWhile p).length = s.length
  | [] => .inl ⟨fun _ h => (nomatch h), rfl⟩
  | a :: l => by
    cases h : p a with
    | false => exact .inr ⟨[], a, l, rfl, (fun _ h => nomatch h), h, by rw [List.takeWhile_cons, h]; rfl⟩
    | true =>
      rw [List.takeWhile_cons, h]
      rcases tw_split (p := p) l with ⟨h1, h2⟩ | ⟨s, b, t, rfl, h1, h2, h3⟩
      · exact .inl ⟨List.forall_mem_cons.mpr ⟨h, h1⟩, by simp [h2]⟩
      · exact .inr ⟨a :: s, b, t, rfl, List.forall_mem_cons.mpr ⟨h, h1⟩, h2, by simp [h3]⟩
theorem cmp_eq {b : Bool} {v r l : Nat → Nat} {n s k : Nat} (S : SimR v r l n) (hs : s < n) (hk : k < n) (ho : v (r s) = v (r k) → ordR b s k) : cmpR b (v (r s)) (v (r k)) = cmpR b (l s) (l k) := by
  have h1 := S.lt s k hs hk
  have h2 := S.lt k s hk hs
  have h3 := S.eq s k hs hk
  have h4 := S.eq k s hk hs
  unfold ordR at ho
  unfold cmpR
  cases b with
  | true =>
    simp only [if_true] at ho ⊢
    refine decide_eq_decide.mpr ⟨h1, fun h => ?_⟩
    rcases Nat.lt_trichotomy (v (r s)) (v (r k)) with q | q | q
    · exact q
    · have := h3 q (ho q); omega
    · have := h2 q; omega
  | false =>
    simp only [Bool.false_eq_true, if_false] at ho ⊢
    refine decide_eq_decide.mpr ⟨fun h => ?_, fun h => ?_⟩
    · rcases Nat.lt_or_eq_of_le h with q | q
      · exact Nat.le_of_lt (h1 q)
      · exact Nat.le_of_lt (h4 q.symm (ho q))
    · rcases Nat.lt_trichotomy (v (r s)) (v (r k)) with q | q | q
      · omega
      · omega
      · have := h2 q; omega
theorem plc_cmp (b : Bool) (v : Nat → Nat) (sd : List Nat) (x : Nat) : plc b v sd x = (sd.takeWhile fun s => cmpR b (v s) x).length := rfl
theorem runSim {b : Bool} {v r l : Nat → Nat} {n : Nat} (S : SimR v r l n) : ∀ (f : Nat) (q1 q2 : List Nat) (no sd : List Nat) (mv : Bool),
    sd.Pairwise (fun a c => cmpR b (v (r a)) (v (r c)) = true) → (q2 ++ sd ++ q1).Pairwise (fun a c => v (r a) = v (r c) → ordR b a c) → (∀ k ∈ q2 ++ sd ++ q1, k < n) → (mv = false → q2 = []) →
    runF b v f ((q1.map some ++ none :: q2.map some).map (Option.map r)) no (sd.map r) mv = runF b l f (q1.map some ++ none :: q2.map some) no sd mv
  | 0, q1, q2, no, sd, mv, _, _, _, _ => by cases q1 <;> rfl
  | f + 1, [], q2, no, sd, mv, hs, ho, hn, hm => by
    show runF b v f (if mv then (q2.map some).map (Option.map r) ++ [none] else (q2.map some).map (Option.map r)) (no ++ [(sd.map r).length]) [] false = runF b l f (if mv then q2.map some ++ [none] else q2.map some) (no ++ [sd.length]) [] false
    rw [List.length_map]
    cases mv with
    | false =>
      rw [hm rfl]
      cases f <;> rfl
    | true =>
      have := runSim (b := b) S f q2 [] (no ++ [sd.length]) [] false .nil (by simp at ho ⊢; exact (List.pairwise_append.mp ho).1) (fun k hk => hn k (by simp at hk ⊢; exact .inl hk)) (fun _ => rfl)
      simpa using this
  | f + 1, k :: q1, q2, no, sd, mv, hs, ho, hn, hm => by
    have e : plc b v (sd.map r) (v (r k)) = plc b l sd (l k) := by
      rw [plc_cmp, plc_cmp, tw_map]
      congr 1
      refine tw_congr fun s hsd => cmp_eq S (hn s (by simp [hsd])) (hn k (by simp)) ?_
      exact (List.pairwise_append.mp ho).2.2 s (by simp [hsd]) k (.head _)
    have ev : plc b l sd (l k) = (sd.takeWhile fun s => cmpR b (v (r s)) (v (r k))).length := by rw [← e, plc_cmp, tw_map]
    show (if plc b v (sd.map r) (v (r k)) = (sd.map r).length then runF b v f ((q1.map some ++ none :: q2.map some).map (Option.map r)) no (sd.map r ++ [r k]) mv else runF b v f ((q1.map some ++ none :: q2.map some).map (Option.map r) ++ [some ((sd.map r).getD (plc b v (sd.map r) (v (r k))) 0)]) no ((sd.map r).set (plc b v (sd.map r) (v (r k))) (r k)) true)
      = if plc b l sd (l k) = sd.length then runF b l f (q1.map some ++ none :: q2.map some) no (sd ++ [k]) mv else runF b l f (q1.map some ++ none :: q2.map some ++ [some (sd.getD (plc b l sd (l k)) 0)]) no (sd.set (plc b l sd (l k)) k) true
    rw [e, List.length_map, ev]
    rcases tw_split (p := fun s => cmpR b (v (r s)) (v (r k))) sd with ⟨h1, h2⟩ | ⟨s, c, t, rfl, h1, h2, h3⟩
    · rw [h2, if_pos rfl, if_pos rfl]
      have := runSim (b := b) S f q1 q2 no (sd ++ [k]) mv (List.pairwise_append.mpr ⟨hs, List.pairwise_singleton _ _, fun a ha c hc => by rw [List.mem_singleton.mp hc]; exact h1 a ha⟩) (by simpa using ho) (fun j hj => hn j (by simpa using hj)) hm
      simpa using this
    · rw [h3, if_neg (by simp), if_neg (by simp)]
      have g1 : (s ++ c :: t).getD s.length 0 = c := by simp
      have g2 : ((s ++ c :: t).map r).getD s.length 0 = r c := by simp
      have g3 : (s ++ c :: t).set s.length k = s ++ k :: t := by simp
      have g4 : ((s ++ c :: t).map r).set s.length (r k) = (s ++ k :: t).map r := by simp
      rw [g1, g2, g3, g4]
      have hck : cmpR b (v (r c)) (v (r k)) = false := h2
      simp only [List.pairwise_append, List.pairwise_cons, List.mem_append, List.mem_cons, List.append_assoc] at hs ho hn
      have tr : ∀ y ∈ t, cmpR b (v (r k)) (v (r y)) = true ∧ v (r k) ≠ v (r y) := fun y hy => by
        have h5 := hs.2.1.1 y hy
        unfold cmpR at h5 hck ⊢
        cases b <;> simp at h5 hck ⊢ <;> omega
      have ts : ∀ x ∈ s, v (r x) ≠ v (r c) := fun x hx => by
        have h5 := h1 x hx
        have h6 := hs.2.2 x hx c (.inl rfl)
        unfold cmpR at h5 h6 hck
        cases b <;> simp at h5 h6 hck <;> omega
      have := runSim (b := b) S f q1 (q2 ++ [c]) no (s ++ k :: t) true ?_ ?_ ?_ (fun h => nomatch h)
      · simpa using this
      · rw [List.pairwise_append, List.pairwise_cons]
        exact ⟨hs.1, ⟨fun y hy => (tr y hy).1, hs.2.1.2⟩, fun x hx y hy => by
          rcases List.mem_cons.mp hy with rfl | hy
          · exact h1 x hx
          · exact hs.2.2 x hx y (.inr hy)⟩
      · simp only [List.pairwise_append, List.pairwise_cons, List.mem_append, List.mem_cons, List.append_assoc, List.mem_singleton, List.not_mem_nil, or_false, List.Pairwise.nil]
        clear e ev g1 g2 g3 g4 h1 h2 h3 hck hs hn
        grind
      · simp only [List.mem_append, List.mem_cons, List.append_assoc, List.mem_singleton, List.not_mem_nil, or_false]
        grind
end
section
theorem rsGs2 : True := by w_top off; k_with_none; trivial
open PySem PySem.W PyProof.Rows PySem.Calls PyProof.Rows.LSm
/-- p at each number up to m -/
noncomputable def allC (p : Nat → Bool) (m : Nat) : Bool := Nat.rec (p (nat_lit 0)) (fun c ih => p (Nat.succ c) && ih) m
theorem allC_spec {p : Nat → Bool} : ∀ {m : Nat}, allC p m = true → ∀ c, c ≤ m → p c = true
  | 0, h, c, hc => by rw [Nat.le_zero.mp hc]; exact h
  | m + 1, h, c, hc => by
    have h2 : (p (m + 1) && allC p m) = true := h
    rw [Bool.and_eq_true] at h2
    rcases Nat.lt_or_eq_of_le hc with q | q
    · exact allC_spec h2.2 c (by omega)
    · rw [q]; exact h2.1
/-- a new last number, c of the old ones below it -/
noncomputable def ext (c : Nat) (l : List Nat) : List Nat := List.rec [c] (fun a _ ih => (bif Nat.ble c a then Nat.succ a else a) :: ih) l
theorem ext_eq (c : Nat) : ∀ l, ext c l = l.map (fun a => bif Nat.ble c a then a + 1 else a) ++ [c]
  | [] => rfl
  | a :: l => by
    show (bif Nat.ble c a then a + 1 else a) :: ext c l = _
    rw [ext_eq c l]; rfl
/-- p at each order type that goes on from l by n more -/
noncomputable def allE (p : List Nat → Bool) (n : Nat) : Nat → List Nat → Bool := Nat.rec (motive := fun _ => Nat → List Nat → Bool) (fun _ l => p l) (fun _ ih m l => allC (fun c => ih (Nat.succ m) (ext c l)) m) n
def rk (key : Nat → Nat) (m j : Nat) : Nat := (List.range m).countP fun i => decide (key i < key j)
def rkL (key : Nat → Nat) (m : Nat) : List Nat := (List.range m).map (rk key m)
theorem countP_lt {p q : Nat → Bool} (hpq : ∀ x, p x = true → q x = true) {j : Nat} (hq : q j = true) (hp : p j = false) : ∀ l : List Nat, j ∈ l → l.countP p < l.countP q
  | [], h => nomatch h
  | a :: l, h => by
    have hle : l.countP p ≤ l.countP q := List.countP_mono_left fun x _ => hpq x
    rw [List.countP_cons, List.countP_cons]
    by_cases e : a = j
    · subst e
      rw [if_pos hq, if_neg (by rw [hp]; decide)]
      omega
    · have := countP_lt hpq hq hp l ((List.mem_cons.mp h).resolve_left (fun q => e q.symm))
      cases hpa : p a with
      | true => rw [if_pos rfl, if_pos (hpq a hpa)]; omega
      | false =>
        rw [if_neg (by decide)]
        split <;> omega
theorem rk_le (key : Nat → Nat) (m j : Nat) : rk key m j ≤ m := by
  have := List.countP_le_length (p := fun i => decide (key i < key j)) (l := List.range m)
  rwa [List.length_range] at this
theorem rk_lt {key : Nat → Nat} {m i j : Nat} (hi : i < m) (h : key i < key j) : rk key m i < rk key m j :=
  countP_lt (fun x hx => by simp at hx ⊢; omega) (by simpa using h) (by simp) _ (List.mem_range.mpr hi)
theorem rk_mono {key : Nat → Nat} {m i j : Nat} (h : key i ≤ key j) : rk key m i ≤ rk key m j :=
  List.countP_mono_left fun x _ hx => by simp at hx ⊢; omega
theorem rk_succ (key : Nat → Nat) (m j : Nat) : rk key (m + 1) j = rk key m j + if key m < key j then 1 else 0 := by
  unfold rk
  rw [List.range_succ, List.countP_append, List.countP_cons, List.countP_nil]
  simp
theorem rkL_succ {key : Nat → Nat} {m : Nat} (inj : ∀ j, j < m → key j ≠ key m) : rkL key (m + 1) = ext (rk key m m) (rkL key m) := by
  rw [ext_eq]
  unfold rkL
  rw [List.range_succ, List.map_append, List.map_map]
  congr 1
  · refine List.map_congr_left fun j hj => ?_
    have hj' := List.mem_range.mp hj
    rw [rk_succ, Function.comp_apply]
    rcases Nat.lt_or_gt_of_ne (inj j hj') with h | h
    · have : rk key m j < rk key m m := rk_lt hj' h
      rw [if_neg (by omega), show Nat.ble (rk key m m) (rk key m j) = false from by cases q : Nat.ble (rk key m m) (rk key m j) with | false => rfl | true => (have := Nat.le_of_ble_eq_true q; omega)]; rfl
    · have : rk key m m ≤ rk key m j := rk_mono (Nat.le_of_lt h)
      rw [if_pos h, Nat.ble_eq_true_of_le this]; rfl
  · rw [List.map_cons, List.map_nil, rk_succ, if_neg (Nat.lt_irrefl _)]; rfl
theorem allE_spec {p : List Nat → Bool} {key : Nat → Nat} : ∀ (n m : Nat), allE p n m (rkL key m) = true → (∀ i j, i < j → j < m + n → key i ≠ key j) → p (rkL key (m + n)) = true
  | 0, m, h, _ => h
  | n + 1, m, h, inj => by
    have h2 : allC (fun c => allE p n (m + 1) (ext c (rkL key m))) m = true := h
    have h3 := allC_spec h2 _ (rk_le key m m)
    rw [← rkL_succ (fun j hj => inj j m hj (by omega))] at h3
    have := allE_spec n (m + 1) h3 (fun i j h1 h2 => inj i j h1 (by omega))
    rwa [Nat.add_assoc, Nat.add_comm 1 n] at this
theorem rkL_get {key : Nat → Nat} {m i : Nat} (hi : i < m) : (rkL key m).getD i 0 = rk key m i := by
  unfold rkL
  rw [List.getD_eq_getElem?_getD, List.getElem?_map, List.getElem?_range hi]; rfl
/-- the order type of the row -/
def keyR (v r : Nat → Nat) (i : Nat) : Nat := v (r i) * 8 + (7 - i)
theorem sim_rk {v r : Nat → Nat} {n : Nat} (hn : n ≤ 7) : SimR v r (fun i => (rkL (keyR v r) n).getD i 0) n where
  lt i j hi hj h := by
    rw [rkL_get hi, rkL_get hj]
    exact rk_lt hi (by unfold keyR; omega)
  eq i j hi hj h hij := by
    rw [rkL_get hi, rkL_get hj]
    exact rk_lt hj (by unfold keyR; omega)
theorem keyR_inj {v r : Nat → Nat} {n : Nat} (hn : n ≤ 7) : ∀ i j, i < j → j < 0 + n → keyR v r i ≠ keyR v r j := fun i j h1 h2 => by unfold keyR; omega
theorem rkL_len (key : Nat → Nat) (m : Nat) : (rkL key m).length = m := by unfold rkL; simp
end
section
theorem rsGs3 : True := by w_top off; k_with_none; trivial
open PySem PySem.W PyProof.Rows PySem.Calls PyProof.Rows.LSm
/-- a table over choices of places, as a tree: the last place on top -/
inductive BT where
  | leaf (x : Nat)
  | node (a b : BT)
def BT.Bal : Nat → BT → Prop
  | 0, .leaf _ => True
  | d + 1, .node a b => BT.Bal d a ∧ BT.Bal d b
  | _, _ => False
def BT.toL : BT → List Nat
  | .leaf x => [x]
  | .node a b => a.toL ++ b.toL
noncomputable def upd (bs : List Bool) : BT → BT → BT :=
  List.rec (motive := fun _ => BT → BT → BT)
    (fun t s => BT.rec (fun x => BT.rec (fun y => .leaf (bif Nat.ble (Nat.succ y) x then x else Nat.succ y)) (fun _ _ _ _ => t) s) (fun _ _ _ _ => t) t)
    (fun b _ ih t s => BT.rec (fun _ => t) (fun a1 a2 _ _ => BT.rec (fun _ => t) (fun c1 c2 _ _ => .node (ih a1 c1) (ih a2 (bif b then c2 else c1))) s) t) bs
noncomputable def allT (f : Nat → Nat → Bool) (t : BT) : Nat → Bool := BT.rec (motive := fun _ => Nat → Bool) (fun x s => f s x) (fun _ _ ih1 ih2 s => ih1 s && ih2 (Nat.succ s)) t
noncomputable def orT (f : Nat → Nat → Nat) (t : BT) : Nat → Nat := BT.rec (motive := fun _ => Nat → Nat) (fun x s => f s x) (fun _ _ ih1 ih2 s => Nat.lor (ih1 s) (ih2 (Nat.succ s))) t
noncomputable def pre (l : List Nat) : Nat → Nat := List.rec (motive := fun _ => Nat → Nat) (fun _ => nat_lit 0) (fun a _ ih x => Nat.rec (nat_lit 0) (fun y _ => Nat.add a (ih y)) x) l
noncomputable def look (P x : Nat) : Nat := Nat.land (Nat.shiftRight P (Nat.shiftLeft x (nat_lit 2))) (nat_lit 15)
/-- the sums of the first numbers, packed; okP looks whether they are right -/
noncomputable def pack (out : List Nat) (m : Nat) : Nat := Nat.rec (nat_lit 0) (fun c ih => Nat.add ih (Nat.shiftLeft (pre out (Nat.succ c)) (Nat.shiftLeft (Nat.succ c) (nat_lit 2)))) m
noncomputable def len (l : List Nat) : Nat := List.rec (nat_lit 0) (fun _ _ ih => Nat.succ ih) l
noncomputable def okP (out : List Nat) (t : BT) (P : Nat) : Bool :=
  allC (fun x => Nat.beq (look P x) (pre out x)) (nat_lit 6) && (allT (fun s x => Nat.ble x (nat_lit 6) && Nat.ble s (look P x)) t (nat_lit 0) &&
    Nat.beq (orT (fun s x => bif Nat.beq s (look P x) then Nat.shiftLeft (nat_lit 1) x else nat_lit 0) t (nat_lit 0)) (Nat.pred (Nat.shiftLeft (nat_lit 2) (len out))))
noncomputable def mapB (f : Nat → Bool) (l : List Nat) : List Bool := List.rec [] (fun a _ ih => f a :: ih) l
noncomputable def tb (l : List Nat) : List Nat → BT → BT → (BT → BT → Bool) → Bool := List.rec (motive := fun _ => List Nat → BT → BT → (BT → BT → Bool) → Bool) (fun _ n s q => q n s)
  (fun c _ ih rv n s q => ih (c :: rv) (.node n (upd (mapB (fun x => Nat.ble (Nat.succ x) c) rv) n n)) (.node s (upd (mapB (fun x => Nat.ble c x) rv) s s)) q) l
def bval : List Bool → Nat
  | [] => 0
  | b :: bs => (if b then 2 ^ bs.length else 0) + bval bs
theorem bval_cons (b : Bool) (bs : List Bool) : bval (b :: bs) = (if b then 2 ^ bs.length else 0) + bval bs := rfl
theorem bval_lt : ∀ bs, bval bs < 2 ^ bs.length
  | [] => Nat.one_pos
  | b :: bs => by
    have := bval_lt bs
    unfold bval
    rw [List.length_cons, Nat.pow_succ]
    split <;> omega
theorem bval_not : ∀ bs : List Bool, bval bs + bval (bs.map (!·)) + 1 = 2 ^ bs.length
  | [] => rfl
  | b :: bs => by
    have := bval_not bs
    rw [List.map_cons, bval, bval, List.length_map, List.length_cons, Nat.pow_succ]
    cases b <;> simp <;> omega
theorem and_lo {d m x : Nat} (hm : m < 2 ^ d) : m &&& (2 ^ d + x) = m &&& x := by
  apply Nat.eq_of_testBit_eq
  intro i
  rw [Nat.testBit_and, Nat.testBit_and]
  by_cases h : i < d
  · rw [Nat.testBit_two_pow_add_gt h]
  · rw [Nat.testBit_lt_two_pow (Nat.lt_of_lt_of_le hm (Nat.pow_le_pow_right (by decide) (by omega))), Bool.false_and, Bool.false_and]
theorem and_hi {d m x : Nat} (hm : m < 2 ^ d) (hx : x < 2 ^ d) : (2 ^ d + m) &&& (2 ^ d + x) = 2 ^ d + (m &&& x) := by
  have tp : ∀ {y : Nat}, y < 2 ^ d → 2 ^ d + y = 2 ^ d ||| y := fun {y} hy => by
    have := Nat.two_pow_add_eq_or_of_lt hy 1
    rwa [Nat.mul_one] at this
  rw [tp hm, tp hx, tp (Nat.lt_of_le_of_lt Nat.and_le_left hm), Nat.or_and_distrib_left]
theorem and_hl {d m x : Nat} (hx : x < 2 ^ d) : (2 ^ d + m) &&& x = m &&& x := by
  rw [Nat.and_comm, and_lo hx, Nat.and_comm]
theorem toL_len : ∀ {d : Nat} {t : BT}, t.Bal d → t.toL.length = 2 ^ d
  | 0, .leaf _, _ => rfl
  | d + 1, .node a b, h => by
    rw [BT.toL, List.length_append, toL_len h.1, toL_len h.2, Nat.pow_succ]; omega
theorem getD_lo {a b : List Nat} {i : Nat} (h : i < a.length) : (a ++ b).getD i 0 = a.getD i 0 := by
  rw [List.getD_eq_getElem?_getD, List.getElem?_append_left h, List.getD_eq_getElem?_getD]
theorem getD_hi {a b : List Nat} {i n : Nat} (h : a.length = n) : (a ++ b).getD (n + i) 0 = b.getD i 0 := by
  rw [List.getD_eq_getElem?_getD, List.getElem?_append_right (by omega), List.getD_eq_getElem?_getD, h, Nat.add_sub_cancel_left]
theorem max_bif (x y : Nat) : (bif Nat.ble (y + 1) x then x else y + 1) = max x (1 + y) := by
  cases q : Nat.ble (y + 1) x with
  | true => have := Nat.le_of_ble_eq_true q; rw [cond_true]; omega
  | false =>
    have : ¬ y + 1 ≤ x := fun h => by rw [Nat.ble_eq_true_of_le h] at q; cases q
    rw [cond_false]; omega
theorem upd_spec : ∀ (bs : List Bool) (t s : BT), t.Bal bs.length → s.Bal bs.length → (upd bs t s).Bal bs.length ∧ (upd bs t s).toL = (List.range (2 ^ bs.length)).map fun m => max (t.toL.getD m 0) (1 + s.toL.getD (m &&& bval bs) 0)
  | [], .leaf x, .leaf y, _, _ => by
    refine ⟨trivial, ?_⟩
    show [(bif Nat.ble (y + 1) x then x else y + 1)] = _
    rw [max_bif]; rfl
  | b :: bs, .node a1 a2, .node c1 c2, ha, hc => by
    obtain ⟨u1, u2⟩ := upd_spec bs a1 c1 ha.1 hc.1
    have hq : (bif b then c2 else c1).Bal bs.length := by cases b with | true => exact hc.2 | false => exact hc.1
    obtain ⟨v1, v2⟩ := upd_spec bs a2 (bif b then c2 else c1) ha.2 hq
    have la1 := toL_len ha.1
    have lc1 := toL_len hc.1
    have hb := bval_lt bs
    refine ⟨⟨u1, v1⟩, ?_⟩
    show (upd bs a1 c1).toL ++ (upd bs a2 (bif b then c2 else c1)).toL = _
    rw [u2, v2, List.length_cons, Nat.pow_succ, Nat.mul_two, List.range_add, List.map_append, List.map_map]
    congr 1
    · refine List.map_congr_left fun m hm => ?_
      have hm := List.mem_range.mp hm
      have e : m &&& bval (b :: bs) = m &&& bval bs := by
        rw [bval_cons]
        cases b with
        | true => rw [if_pos rfl, and_lo hm]
        | false => rw [if_neg (by decide), Nat.zero_add]
      rw [BT.toL, BT.toL, getD_lo (by omega), e, getD_lo (by rw [lc1]; exact Nat.lt_of_le_of_lt Nat.and_le_left hm)]
    · refine List.map_congr_left fun m hm => ?_
      have hm := List.mem_range.mp hm
      rw [Function.comp_apply, BT.toL, BT.toL, getD_hi la1, bval_cons]
      cases b with
      | true => rw [if_pos rfl, and_hi hm hb, getD_hi lc1]; rfl
      | false => rw [if_neg (by decide), Nat.zero_add, and_hl hb, getD_lo (by rw [lc1]; exact Nat.lt_of_le_of_lt Nat.and_le_left hm)]; rfl
theorem rowC_eq {b c l : Nat} {A N S : List Nat} (h1 : A.length = l) (h2 : N.length = l) (h3 : S.length = l) : ∀ k, k ≤ l → rowC b c k (A, N, S) =
    (A ++ (List.range k).map (fun m => A.getD m 0 + 1), N ++ (List.range k).map (fun m => max (N.getD m 0) (1 + N.getD (m &&& b) 0)), S ++ (List.range k).map fun m => max (S.getD m 0) (1 + S.getD (m &&& c) 0))
  | 0, _ => by simp [rowC]
  | k + 1, hk => by
    have l1 : k &&& b < l := Nat.lt_of_le_of_lt Nat.and_le_left hk
    have l2 : k &&& c < l := Nat.lt_of_le_of_lt Nat.and_le_left hk
    rw [rowC_succ, rowC_eq h1 h2 h3 k (by omega)]
    unfold stepC
    dsimp only
    rw [getD_lo (by omega), getD_lo (by omega), getD_lo (by omega), getD_lo (by omega), getD_lo (by omega), List.range_succ, List.map_append, List.map_append, List.map_append, List.append_assoc, List.append_assoc, List.append_assoc]
    rfl
theorem range_getD {l : List Nat} {n : Nat} (h : l.length = n) (f : Nat → Nat) : (List.range n).map (fun m => f (l.getD m 0)) = l.map f := by
  apply List.ext_getElem
  · simp [h]
  · intro i h1 h2
    simp only [List.length_map, List.length_range] at h1 h2
    rw [List.getElem_map, List.getElem_map, List.getElem_range, List.getD_eq_getElem?_getD, List.getElem?_eq_getElem h2]; rfl
/-- the sizes of all choices out of n places -/
def szL : Nat → List Nat
  | 0 => [0]
  | n + 1 => szL n ++ (szL n).map (· + 1)
theorem szL_len : ∀ n, (szL n).length = 2 ^ n
  | 0 => rfl
  | n + 1 => by rw [szL, List.length_append, List.length_map, szL_len n, Nat.pow_succ]; omega
/-- the bits of place n: which places ahead of it p tells -/
def bitsR (p : Nat → Nat → Bool) (n : Nat) : List Bool := (List.range n).reverse.map fun i => p i n
noncomputable def trR (p : Nat → Nat → Bool) : Nat → BT
  | 0 => .leaf 0
  | n + 1 => .node (trR p n) (upd (bitsR p n) (trR p n) (trR p n))
theorem bitsR_len (p : Nat → Nat → Bool) (n : Nat) : (bitsR p n).length = n := by simp [bitsR]
theorem trR_bal (p : Nat → Nat → Bool) : ∀ n, (trR p n).Bal n
  | 0 => trivial
  | n + 1 => by
    have ih := trR_bal p n
    have := (upd_spec (bitsR p n) _ _ (by rw [bitsR_len]; exact ih) (by rw [bitsR_len]; exact ih)).1
    rw [bitsR_len] at this
    exact ⟨ih, this⟩
theorem trR_toL (p : Nat → Nat → Bool) (n : Nat) : (trR p (n + 1)).toL = (trR p n).toL ++ (List.range (2 ^ n)).map fun m => max ((trR p n).toL.getD m 0) (1 + (trR p n).toL.getD (m &&& bval (bitsR p n)) 0) := by
  have ih := trR_bal p n
  have := (upd_spec (bitsR p n) _ _ (by rw [bitsR_len]; exact ih) (by rw [bitsR_len]; exact ih)).2
  rw [bitsR_len] at this
  rw [← this]; rfl
theorem bel_bits {M : List (List Bool)} {top : Nat} {q : Nat → Bool} : ∀ k, (∀ i, i < k → (M.getD i []).getD top false = q i) → bel M top k = bval ((List.range k).reverse.map q)
  | 0, _ => rfl
  | k + 1, h => by
    have ih := bel_bits k fun i hi => h i (Nat.lt_succ_of_lt hi)
    unfold bel at ih ⊢
    rw [List.range_succ, List.filter_append, List.map_append, List.sum_append, ih, List.reverse_append, List.reverse_singleton, List.singleton_append, List.map_cons, bval, List.length_map, List.length_reverse, List.length_range, Nat.add_comm]
    congr 1
    rw [List.filter_cons, List.filter_nil, h k (Nat.lt_succ_self k)]
    cases q k <;> simp
theorem tabC_tree {M : List (List Bool)} {p : Nat → Nat → Bool} : ∀ n, (∀ i j, i < j → j < n → (M.getD i []).getD j false = p i j) → tabC M n = (szL n, (trR p n).toL, (trR (fun i j => !p i j) n).toL)
  | 0, _ => rfl
  | n + 1, h => by
    have hb : bel M n n = bval (bitsR p n) := bel_bits n fun i hi => h i n hi (Nat.lt_succ_self n)
    have hc : 2 ^ n - 1 - bel M n n = bval (bitsR (fun i j => !p i j) n) := by
      have := bval_not (bitsR p n)
      rw [bitsR_len] at this
      have e : (bitsR p n).map (!·) = bitsR (fun i j => !p i j) n := by unfold bitsR; rw [List.map_map]; rfl
      rw [e] at this
      omega
    rw [tabC_succ, tabC_tree n fun i j h1 h2 => h i j h1 (by omega), rowC_eq (szL_len n) (toL_len (trR_bal p n)) (toL_len (trR_bal _ n)) _ (Nat.le_refl _), trR_toL, trR_toL, hb]
    rw [hb] at hc
    rw [hc, range_getD (szL_len n) (· + 1)]; rfl
theorem mapB_eq (f : Nat → Bool) : ∀ l, mapB f l = l.map f
  | [] => rfl
  | a :: l => by
    show f a :: mapB f l = _
    rw [mapB_eq f l]; rfl
theorem tb_spec {l : Nat → Nat} {q : BT → BT → Bool} : ∀ (rest : List Nat) (m : Nat), (∀ i, i < rest.length → rest.getD i 0 = l (m + i)) →
    tb rest ((List.range m).reverse.map l) (trR (fun i j => decide (l i < l j)) m) (trR (fun i j => !decide (l i < l j)) m) q = q (trR (fun i j => decide (l i < l j)) (m + rest.length)) (trR (fun i j => !decide (l i < l j)) (m + rest.length))
  | [], m, _ => rfl
  | c :: rest, m, h => by
    have hc : c = l m := h 0 (Nat.succ_pos _)
    have ih := tb_spec (q := q) rest (m + 1) fun i hi => by
      have := h (i + 1) (Nat.succ_lt_succ hi)
      rw [List.getD_cons_succ] at this
      rw [this]; congr 1; omega
    rw [List.length_cons, show m + (rest.length + 1) = m + 1 + rest.length from by omega, ← ih]
    show tb rest (c :: (List.range m).reverse.map l) (.node _ (upd (mapB (fun x => Nat.ble (x + 1) c) ((List.range m).reverse.map l)) _ _)) (.node _ (upd (mapB (fun x => Nat.ble c x) ((List.range m).reverse.map l)) _ _)) q = _
    rw [mapB_eq, mapB_eq, List.map_map, List.map_map, List.range_succ, List.reverse_append, List.reverse_singleton, List.singleton_append, List.map_cons, ← hc]
    have e1 : (List.range m).reverse.map ((fun x => Nat.ble (x + 1) c) ∘ l) = bitsR (fun i j => decide (l i < l j)) m := by
      unfold bitsR
      refine List.map_congr_left fun i _ => ?_
      rw [Function.comp_apply]
      dsimp only
      rw [← hc]
      cases q : Nat.ble (l i + 1) c with
      | true => exact (decide_eq_true (Nat.le_of_ble_eq_true q)).symm
      | false => exact (decide_eq_false fun h => by rw [Nat.ble_eq_true_of_le h] at q; cases q).symm
    have e2 : (List.range m).reverse.map ((fun x => Nat.ble c x) ∘ l) = bitsR (fun i j => !decide (l i < l j)) m := by
      unfold bitsR
      refine List.map_congr_left fun i _ => ?_
      rw [Function.comp_apply]
      dsimp only
      rw [← hc]
      cases q : Nat.ble c (l i) with
      | true => have := Nat.le_of_ble_eq_true q; rw [decide_eq_false (by omega)]; rfl
      | false =>
        have : ¬ c ≤ l i := fun h => by rw [Nat.ble_eq_true_of_le h] at q; cases q
        rw [decide_eq_true (by omega)]; rfl
    rw [e1, e2]
    rfl
end
section
theorem rsGs4 : True := by w_top off; k_with_none; trivial
open PySem PySem.W PyProof.Rows PySem.Calls PyProof.Rows.LSm
theorem allT_spec {f : Nat → Nat → Bool} : ∀ {d : Nat} {t : BT} {s : Nat}, t.Bal d → allT f t s = true → ∀ m, m < 2 ^ d → f ((szL d).getD m 0 + s) (t.toL.getD m 0) = true
  | 0, .leaf x, s, _, h, m, hm => by
    obtain rfl : m = 0 := by simpa using hm
    show f (0 + s) x = true
    rw [Nat.zero_add]; exact h
  | d + 1, .node a b, s, hb, h, m, hm => by
    have h2 : (allT f a s && allT f b (s + 1)) = true := h
    rw [Bool.and_eq_true] at h2
    rw [Nat.pow_succ] at hm
    have la := toL_len hb.1
    have ls := szL_len d
    rw [szL, BT.toL]
    by_cases q : m < 2 ^ d
    · rw [getD_lo (by omega), getD_lo (by omega)]
      exact allT_spec hb.1 h2.1 m q
    · obtain ⟨j, rfl⟩ : ∃ j, m = 2 ^ d + j := ⟨m - 2 ^ d, by omega⟩
      rw [getD_hi ls, getD_hi la]
      have := allT_spec hb.2 h2.2 j (by omega)
      have e : ((szL d).map (· + 1)).getD j 0 = (szL d).getD j 0 + 1 := by
        rw [List.getD_eq_getElem?_getD, List.getElem?_map, List.getD_eq_getElem?_getD, List.getElem?_eq_getElem (by omega)]; rfl
      rw [e, show (szL d).getD j 0 + 1 + s = (szL d).getD j 0 + (s + 1) from by omega]
      exact this
theorem orT_spec {f : Nat → Nat → Nat} {k : Nat} : ∀ {d : Nat} {t : BT} {s : Nat}, t.Bal d → (orT f t s).testBit k = true → ∃ m, m < 2 ^ d ∧ (f ((szL d).getD m 0 + s) (t.toL.getD m 0)).testBit k = true
  | 0, .leaf x, s, _, h => ⟨0, Nat.one_pos, by show (f (0 + s) x).testBit k = true; rw [Nat.zero_add]; exact h⟩
  | d + 1, .node a b, s, hb, h => by
    have h2 : (orT f a s ||| orT f b (s + 1)).testBit k = true := h
    rw [Nat.testBit_or, Bool.or_eq_true] at h2
    rw [Nat.pow_succ]
    have la := toL_len hb.1
    have ls := szL_len d
    rw [szL, BT.toL]
    rcases h2 with h2 | h2
    · obtain ⟨m, hm, e⟩ := orT_spec hb.1 h2
      exact ⟨m, by omega, by rw [getD_lo (by omega), getD_lo (by omega)]; exact e⟩
    · obtain ⟨j, hj, e⟩ := orT_spec hb.2 h2
      refine ⟨2 ^ d + j, by omega, ?_⟩
      rw [getD_hi ls, getD_hi la]
      have e2 : ((szL d).map (· + 1)).getD j 0 = (szL d).getD j 0 + 1 := by
        rw [List.getD_eq_getElem?_getD, List.getElem?_map, List.getD_eq_getElem?_getD, List.getElem?_eq_getElem (by omega)]; rfl
      rw [e2, show (szL d).getD j 0 + 1 + s = (szL d).getD j 0 + (s + 1) from by omega]
      exact e
theorem pre_eq : ∀ (l : List Nat) (x : Nat), pre l x = (l.take x).sum
  | [], x => by cases x <;> rfl
  | a :: l, 0 => rfl
  | a :: l, x + 1 => by
    show a + pre l x = _
    rw [pre_eq l x, List.take_succ_cons, List.sum_cons]
theorem take_mono (l : List Nat) {x k : Nat} (h : x ≤ k) : (l.take x).sum ≤ (l.take k).sum := by
  obtain ⟨j, rfl⟩ : ∃ j, k = x + j := ⟨k - x, by omega⟩
  rw [List.take_add, List.sum_append]; omega
theorem mem_szs {T1 T2 : List Nat} {k j a : Nat} : a ∈ szs T1 T2 k j ↔ ∃ m, m < j ∧ T2.getD m 0 ≤ k ∧ T1.getD m 0 = a := by
  unfold szs
  simp only [List.mem_map, List.mem_filter, List.mem_range, decide_eq_true_eq, and_assoc]
theorem len_eq : ∀ l : List Nat, len l = l.length
  | [] => rfl
  | a :: l => by
    show Nat.succ (len l) = _
    rw [len_eq l]; rfl
theorem okP_law {out : List Nat} {t : BT} {d k P : Nat} (hb : t.Bal d) (h : okP out t P = true) : LawK (szL d) t.toL out k := by
  unfold okP at h
  rw [Bool.and_eq_true, Bool.and_eq_true] at h
  have h0 : ∀ x, x ≤ 6 → look P x = (out.take x).sum := fun x hx => (Nat.eq_of_beq_eq_true (allC_spec h.1 x hx)).trans (pre_eq out x)
  have h1 := allT_spec hb h.2.1
  have h2 := Nat.eq_of_beq_eq_true h.2.2
  rw [len_eq] at h2
  have x6 : ∀ m, m < 2 ^ d → t.toL.getD m 0 ≤ 6 ∧ (szL d).getD m 0 ≤ (out.take (t.toL.getD m 0)).sum := fun m hm => by
    have e := h1 m hm
    rw [Bool.and_eq_true] at e
    have e1 : t.toL.getD m 0 ≤ 6 := Nat.le_of_ble_eq_true e.1
    have e2 : (szL d).getD m 0 ≤ look P (t.toL.getD m 0) := Nat.le_of_ble_eq_true e.2
    rw [h0 _ e1] at e2
    exact ⟨e1, e2⟩
  have up := fun m hm => (x6 m hm).2
  have lo : ∀ k, k ≤ out.length → (out.take k).sum ∈ szs (szL d) t.toL k (2 ^ d) := fun k hk => by
    have ht : (Nat.pred (Nat.shiftLeft 2 out.length)).testBit k = true := by
      show ((2 <<< out.length) - 1).testBit k = true
      rw [Nat.shiftLeft_eq, show 2 * 2 ^ out.length = 2 ^ (out.length + 1) from by rw [Nat.pow_succ, Nat.mul_comm], Nat.testBit_two_pow_sub_one]
      exact decide_eq_true (by omega)
    obtain ⟨m, hm, e⟩ := orT_spec hb ((congrArg (fun z => Nat.testBit z k) h2).trans ht)
    cases q : Nat.beq ((szL d).getD m 0 + 0) (look P (t.toL.getD m 0)) with
    | false =>
      have e' : (bif Nat.beq ((szL d).getD m 0 + 0) (look P (t.toL.getD m 0)) then 1 <<< t.toL.getD m 0 else 0).testBit k = true := e
      rw [q, cond_false, Nat.zero_testBit] at e'
      cases e'
    | true =>
      have e' : (bif Nat.beq ((szL d).getD m 0 + 0) (look P (t.toL.getD m 0)) then 1 <<< t.toL.getD m 0 else 0).testBit k = true := e
      rw [q, cond_true, Nat.one_shiftLeft, Nat.testBit_two_pow, decide_eq_true_eq] at e'
      have q2 := Nat.eq_of_beq_eq_true q
      rw [h0 _ (x6 m hm).1, e'] at q2
      exact mem_szs.mpr ⟨m, hm, by omega, q2⟩
  unfold LawK
  rw [szL_len]
  constructor
  · by_cases hk : k ≤ out.length
    · exact lo k hk
    · have e : out.take k = out.take out.length := by rw [List.take_of_length_le (by omega), List.take_length]
      rw [e]
      obtain ⟨m, hm, h2, h3⟩ := mem_szs.mp (lo out.length (Nat.le_refl _))
      exact mem_szs.mpr ⟨m, hm, by omega, h3⟩
  · intro a ha
    obtain ⟨m, hm, h2, rfl⟩ := mem_szs.mp ha
    exact Nat.le_trans (up m hm) (take_mono out h2)
/-- a word goes into a row: kB where it bumps one out, kA where it goes to the end -/
noncomputable def ins (lt : Nat → Nat → Bool) (k : Nat) (sd : List Nat) : (List Nat → Nat → Bool) → (List Nat → Bool) → Bool :=
  List.rec (motive := fun _ => (List Nat → Nat → Bool) → (List Nat → Bool) → Bool) (fun _ kA => kA [k])
    (fun s r ih kB kA => bif lt s k then ih (fun r' x => kB (s :: r') x) (fun r' => kA (s :: r')) else kB (k :: r) s) sd
noncomputable def rnd (lt : Nat → Nat → Bool) (q1 : List Nat) : List Nat → List Nat → (List Nat → List Nat → Bool) → Bool :=
  List.rec (motive := fun _ => List Nat → List Nat → (List Nat → List Nat → Bool) → Bool) (fun sd q2 fin => fin sd q2)
    (fun k _ ih sd q2 fin => ins lt k sd (fun sd' x => ih sd' (x :: q2) fin) (fun sd' => ih sd' q2 fin)) q1
noncomputable def revA (l : List Nat) : List Nat → List Nat := List.rec (motive := fun _ => List Nat → List Nat) (fun a => a) (fun x _ ih a => ih (x :: a)) l
noncomputable def rounds (lt : Nat → Nat → Bool) (n : Nat) : List Nat → List Nat → (List Nat → Bool) → Bool :=
  Nat.rec (motive := fun _ => List Nat → List Nat → (List Nat → Bool) → Bool) (fun _ _ _ => false)
    (fun _ ih q1 no K => rnd lt q1 [] [] fun sd q2 => List.rec (K (revA no [len sd])) (fun _ _ _ => ih (revA q2 []) (len sd :: no) K) q2) n
theorem revA_eq : ∀ l a : List Nat, revA l a = l.reverse ++ a
  | [], _ => rfl
  | x :: l, a => by
    show revA l (x :: a) = _
    rw [revA_eq l (x :: a), List.reverse_cons, List.append_assoc]; rfl
theorem ins_all {lt : Nat → Nat → Bool} {k : Nat} {kB : List Nat → Nat → Bool} {kA : List Nat → Bool} : ∀ {sd : List Nat}, (∀ x ∈ sd, lt x k = true) → ins lt k sd kB kA = kA (sd ++ [k])
  | [], _ => rfl
  | s :: r, h => by
    show (bif lt s k then ins lt k r (fun r' x => kB (s :: r') x) (fun r' => kA (s :: r')) else kB (k :: r) s) = _
    rw [h s (.head _), cond_true, ins_all fun x hx => h x (.tail _ hx)]; rfl
theorem ins_at {lt : Nat → Nat → Bool} {k c : Nat} {t : List Nat} (hc : lt c k = false) : ∀ {s : List Nat} {kB : List Nat → Nat → Bool} {kA : List Nat → Bool}, (∀ x ∈ s, lt x k = true) → ins lt k (s ++ c :: t) kB kA = kB (s ++ k :: t) c
  | [], kB, kA, _ => by
    show (bif lt c k then ins lt k t (fun r' x => kB (c :: r') x) (fun r' => kA (c :: r')) else kB (k :: t) c) = _
    rw [hc]; rfl
  | s :: r, kB, kA, h => by
    show (bif lt s k then ins lt k (r ++ c :: t) (fun r' x => kB (s :: r') x) (fun r' => kA (s :: r')) else kB (k :: (r ++ c :: t)) s) = _
    rw [h s (.head _), cond_true, ins_at hc fun x hx => h x (.tail _ hx)]; rfl
theorem rnd_spec {b : Bool} {lt : Nat → Nat → Bool} (hlt : ∀ x k, lt x k = cmpR b x k) {fin : List Nat → List Nat → Bool} : ∀ (q1 sd q2 : List Nat), rnd lt q1 sd q2 fin = true →
    ∃ sd' q2', fin sd' q2' = true ∧ q2'.length ≤ q1.length + q2.length ∧ ∀ f no, runF b id (f + q1.length) (q1.map some ++ none :: q2.reverse.map some) no sd (!q2.isEmpty) = runF b id f (none :: q2'.reverse.map some) no sd' (!q2'.isEmpty)
  | [], sd, q2, h => ⟨sd, q2, h, by simp, fun f no => rfl⟩
  | k :: q1, sd, q2, h => by
    have h' : ins lt k sd (fun sd' x => rnd lt q1 sd' (x :: q2) fin) (fun sd' => rnd lt q1 sd' q2 fin) = true := h
    have step : ∀ f no mv, runF b id (f + (k :: q1).length) ((k :: q1).map some ++ none :: q2.reverse.map some) no sd mv = if (sd.takeWhile fun s => cmpR b s k).length = sd.length then runF b id (f + q1.length) (q1.map some ++ none :: q2.reverse.map some) no (sd ++ [k]) mv else runF b id (f + q1.length) (q1.map some ++ none :: q2.reverse.map some ++ [some (sd.getD (sd.takeWhile fun s => cmpR b s k).length 0)]) no (sd.set (sd.takeWhile fun s => cmpR b s k).length k) true := fun f no mv => rfl
    rcases tw_split (p := fun s => cmpR b s k) sd with ⟨h1, h2⟩ | ⟨s, c, t, rfl, h1, h2, h3⟩
    · rw [ins_all (fun x hx => (hlt x k).trans (h1 x hx))] at h'
      obtain ⟨sd', q2', e1, e2, e3⟩ := rnd_spec hlt q1 _ q2 h'
      refine ⟨sd', q2', e1, by rw [List.length_cons]; omega, fun f no => ?_⟩
      rw [step, h2, if_pos rfl, e3]
    · rw [ins_at ((hlt c k).trans h2) (fun x hx => (hlt x k).trans (h1 x hx))] at h'
      obtain ⟨sd', q2', e1, e2, e3⟩ := rnd_spec hlt q1 _ (c :: q2) h'
      refine ⟨sd', q2', e1, by rw [List.length_cons] at e2 ⊢; omega, fun f no => ?_⟩
      rw [step, h3, if_neg (by simp)]
      have g1 : (s ++ c :: t).getD s.length 0 = c := by simp
      have g3 : (s ++ c :: t).set s.length k = s ++ k :: t := by simp
      rw [g1, g3]
      have := e3 f no
      simpa using this
theorem rounds_spec {b : Bool} {lt : Nat → Nat → Bool} (hlt : ∀ x k, lt x k = cmpR b x k) {N : Nat} : ∀ (n : Nat) (q1 no : List Nat) (K : List Nat → Bool), q1.length ≤ N → rounds lt n q1 no K = true →
    ∃ f out, f ≤ n * (N + 1) ∧ out.length ≤ no.length + n ∧ runF b id f (q1.map some ++ [none]) no.reverse [] false = some out ∧ K out = true
  | 0, _, _, _, _, h => nomatch h
  | n + 1, q1, no, K, hq, h => by
    obtain ⟨sd, q2, e1, e2, e3⟩ := rnd_spec hlt q1 [] [] (show rnd lt q1 [] [] (fun sd q2 => List.rec (K (revA no [len sd])) (fun _ _ _ => rounds lt n (revA q2 []) (len sd :: no) K) q2) = true from h)
    rw [Nat.add_mul, Nat.one_mul]
    cases q2 with
    | nil =>
      have e1' : K (revA no [len sd]) = true := e1
      rw [revA_eq, len_eq] at e1'
      refine ⟨1 + q1.length, no.reverse ++ [sd.length], by omega, by simp, (e3 1 no.reverse).trans ?_, e1'⟩
      rfl
    | cons a q2 =>
      have e1' : rounds lt n (revA (a :: q2) []) (len sd :: no) K = true := e1
      rw [revA_eq, len_eq, List.append_nil] at e1'
      obtain ⟨f, out, a1, a2, a3, a4⟩ := rounds_spec (N := N) hlt n (a :: q2).reverse (sd.length :: no) K (by rw [List.length_reverse]; simp at e2 ⊢; omega) e1'
      refine ⟨f + 1 + q1.length, out, by omega, by simp at a2; omega, (e3 (f + 1) no.reverse).trans ?_, a4⟩
      rw [show (sd.length :: no).reverse = no.reverse ++ [sd.length] from List.reverse_cons] at a3
      exact a3
noncomputable def okL (l : List Nat) : Bool :=
  rounds (fun x k => Nat.ble (Nat.succ x) k) (nat_lit 7) l [] fun up => rounds Nat.ble (nat_lit 7) (revA l []) [] fun down => tb l [] (.leaf (nat_lit 0)) (.leaf (nat_lit 0)) fun n s => okP up s (pack up (nat_lit 6)) && okP down n (pack down (nat_lit 6))
theorem okL_spec {l : List Nat} {n : Nat} (hn : l.length = n) (h6 : n ≤ 6) (h : okL l = true) : ∃ fu fd up down, runF true id fu (l.map some ++ [none]) [] [] false = some up ∧ runF false id fd (l.reverse.map some ++ [none]) [] [] false = some down ∧ fu ≤ 10000 ∧ fd ≤ 10000 ∧ up.length ≤ 20000 ∧ down.length ≤ 20000 ∧
    ∀ M : List (List Bool), (∀ i j, i < j → j < n → (M.getD i []).getD j false = decide (l.getD i 0 < l.getD j 0)) → ∀ k, LawK (tabC M n).1 (tabC M n).2.2 up k ∧ LawK (tabC M n).1 (tabC M n).2.1 down k := by
  unfold okL at h
  rw [revA_eq, List.append_nil] at h
  obtain ⟨fu, up, a1, a2, a3, h⟩ := rounds_spec (b := true) (N := 6) (fun x k => by
    unfold cmpR
    rw [if_pos rfl]
    cases q : Nat.ble (x + 1) k with
    | true => exact (decide_eq_true (Nat.le_of_ble_eq_true q)).symm
    | false => exact (decide_eq_false fun h => by rw [Nat.ble_eq_true_of_le h] at q; cases q).symm) 7 l [] _ (by omega) h
  obtain ⟨fd, down, b1, b2, b3, h⟩ := rounds_spec (b := false) (N := 6) (fun x k => by
    unfold cmpR
    rw [if_neg (by decide)]
    cases q : Nat.ble x k with
    | true => exact (decide_eq_true (Nat.le_of_ble_eq_true q)).symm
    | false => exact (decide_eq_false fun h => by rw [Nat.ble_eq_true_of_le h] at q; cases q).symm) 7 l.reverse [] _ (by rw [List.length_reverse]; omega) h
  refine ⟨fu, fd, up, down, a3, b3, by omega, by omega, by simp at a2; omega, by simp at b2; omega, fun M hM k => ?_⟩
  have ht := tb_spec (l := fun i => l.getD i 0) (q := fun n s => okP up s (pack up 6) && okP down n (pack down 6)) l 0 (fun i _ => by rw [Nat.zero_add])
  have h2 : tb l ((List.range 0).reverse.map fun i => l.getD i 0) (trR (fun i j => decide (l.getD i 0 < l.getD j 0)) 0) (trR (fun i j => !decide (l.getD i 0 < l.getD j 0)) 0) (fun n s => okP up s (pack up 6) && okP down n (pack down 6)) = true := h
  rw [ht, Nat.zero_add, hn, Bool.and_eq_true] at h2
  rw [tabC_tree (p := fun i j => decide (l.getD i 0 < l.getD j 0)) n hM]
  exact ⟨okP_law (trR_bal _ n) h2.1, okP_law (trR_bal _ n) h2.2⟩
end
section
theorem rsGs5 : True := by w_top off; k_with_none; trivial
open PySem PySem.W PyProof.Rows PySem.Calls PyProof.Rows.LSm
theorem ok5 : allE okL 5 0 [] = true := by decide +kernel
theorem andT {a b : Bool} (ha : a = true) (hb : b = true) : (a && b) = true := by rw [ha, hb]; rfl
theorem ok6a : allE okL 3 3 [0, 1, 2] = true := by decide +kernel
theorem ok6b : allE okL 3 3 [0, 2, 1] = true := by decide +kernel
theorem ok6c : allE okL 3 3 [1, 0, 2] = true := by decide +kernel
theorem ok6d : allE okL 3 3 [1, 2, 0] = true := by decide +kernel
theorem ok6e : allE okL 3 3 [2, 0, 1] = true := by decide +kernel
theorem ok6f : allE okL 3 3 [2, 1, 0] = true := by decide +kernel
theorem allE3 (p : List Nat → Bool) (h1 : p [0, 1, 2] = true) (h2 : p [0, 2, 1] = true) (h3 : p [1, 0, 2] = true) (h4 : p [1, 2, 0] = true) (h5 : p [2, 0, 1] = true) (h6 : p [2, 1, 0] = true) : allE p 3 0 [] = true := by
  have e : allE p 3 0 [] = ((p [0, 1, 2] && (p [0, 2, 1] && p [1, 2, 0])) && (p [1, 0, 2] && (p [2, 0, 1] && p [2, 1, 0]))) := rfl
  rw [e, h1, h2, h3, h4, h5, h6]; rfl
theorem ok6 : allE (fun l => allE okL 3 3 l) 3 0 [] = true := allE3 _ ok6a ok6b ok6c ok6d ok6e ok6f
end
section
theorem rsPl : True := by w_top off; k_with_none; trivial
open PySem PySem.W PyProof.Rows PySem.Calls PyProof.Rows.LSm
/-- the matrix of less over the sorted row -/
def lessM (X : List Nat) : List (List Bool) := (insRow X X.length).map fun a => (insRow X X.length).map fun b => lessB X a b
/-- all that the law needs of the two runs and the choices -/
def Plain (X : List Nat) : Prop := ∃ fu up fd down, runF true (nOf X) fu ((insRow X X.length).map some ++ [none]) [] [] false = some up ∧ runF false (nOf X) fd ((insRow X X.length).reverse.map some ++ [none]) [] [] false = some down ∧ fu ≤ 10000 ∧ fd ≤ 10000 ∧ up.length ≤ 20000 ∧ down.length ≤ 20000 ∧
  (∀ k, 1 ≤ k → k ≤ X.length → LawK (tabC (lessM X) X.length).1 (tabC (lessM X) X.length).2.2 up k) ∧ (∀ k, 1 ≤ k → k ≤ X.length → LawK (tabC (lessM X) X.length).1 (tabC (lessM X) X.length).2.1 down k)
theorem rowGet {l : List Nat} {n : Nat} (h : l.length = n) : (List.range n).map (fun i => l.getD i 0) = l := by
  have := range_getD h id
  simpa using this
theorem plainLaw (X : List Nat) (h : X.length = 5 ∨ X.length = 6) (h24 : ∀ i, i < X.length → X.getD i 0 < 24) : Plain X := by
  generalize hn : X.length = n at h
  have h6 : n ≤ 6 := by omega
  have hl := insRow_len X n
  obtain ⟨r, hr⟩ : ∃ r : Nat → Nat, r = fun i => (insRow X n).getD i 0 := ⟨_, rfl⟩
  obtain ⟨l, hL⟩ : ∃ l, l = rkL (keyR (nOf X) r) n := ⟨_, rfl⟩
  have hlen : l.length = n := by rw [hL]; exact rkL_len _ _
  have S : SimR (nOf X) r (fun i => l.getD i 0) n := by rw [hL]; exact sim_rk (by omega)
  have ok : okL l = true := by
    have inj := keyR_inj (v := nOf X) (r := r) (n := n) (by omega)
    rw [hL]
    rcases h with h | h
    · subst h
      have := allE_spec (p := okL) (key := keyR (nOf X) r) 5 0 ok5 inj
      simpa using this
    · subst h
      have e := allE_spec (p := fun l => allE okL 3 3 l) (key := keyR (nOf X) r) 3 0 ok6 fun i j h1 h2 => inj i j h1 (by omega)
      have := allE_spec (p := okL) (key := keyR (nOf X) r) 3 3 e inj
      exact this
  have linj : ∀ i j, i < j → j < n → l.getD i 0 ≠ l.getD j 0 := fun i j h1 h2 => by
    rw [hL, rkL_get (by omega), rkL_get h2]
    rcases Nat.lt_or_gt_of_ne (keyR_inj (v := nOf X) (r := r) (n := n) (by omega) i j h1 (by omega)) with q | q
    · exact Nat.ne_of_lt (rk_lt (by omega) q)
    · exact Nat.ne_of_gt (rk_lt h2 q)
  have SI : SimR id (fun i => l.getD i 0) (fun i => l.getD i 0) n := ⟨fun i j _ _ h => h, fun i j hi hj e hij => absurd e (linj i j hij hj)⟩
  have hrow : (List.range n).map r = insRow X n := by rw [hr]; exact rowGet hl
  have hll : (List.range n).map (fun i => l.getD i 0) = l := rowGet hlen
  have pu : (List.range n).Pairwise fun a c => ordR true a c := List.pairwise_lt_range
  have pd : (List.range n).reverse.Pairwise fun a c => ordR false a c := by
    rw [List.pairwise_reverse]; exact List.pairwise_lt_range
  have tr : ∀ (b : Bool) (q : List Nat) (f : Nat), q.Pairwise (fun a c => ordR b a c) → (∀ k ∈ q, k < n) → runF b (nOf X) f ((q.map r).map some ++ [none]) [] [] false = runF b id f ((q.map fun i => l.getD i 0).map some ++ [none]) [] [] false := fun b q f hq hk => by
    have ap : ∀ p : Nat → Nat → Prop, ([] ++ [] ++ q : List Nat).Pairwise fun a c => p a c → ordR b a c := fun p => List.Pairwise.imp (S := fun a c => p a c → ordR b a c) (fun h _ => h) hq
    have a := runSim (b := b) S f q [] [] [] false .nil (ap _) hk (fun _ => rfl)
    have c := runSim (b := b) SI f q [] [] [] false .nil (ap _) hk (fun _ => rfl)
    have e : ∀ g : Nat → Nat, (q.map some ++ none :: ([] : List Nat).map some).map (Option.map g) = (q.map g).map some ++ [none] := fun g => by
      rw [List.map_append, List.map_map, List.map_map]; rfl
    rw [e] at a c
    exact a.trans c.symm
  obtain ⟨fu, fd, up, down, e1, e2, e3, e4, e5, e6, e7⟩ := okL_spec hlen h6 ok
  have hM : ∀ i j, i < j → j < n → ((lessM X).getD i []).getD j false = decide (l.getD i 0 < l.getD j 0) := fun i j hij hj => by
    have gi : (insRow X n)[i]? = some (r i) := by rw [hr]; dsimp only; rw [List.getD_eq_getElem?_getD, List.getElem?_eq_getElem (by omega)]; rfl
    have gj : (insRow X n)[j]? = some (r j) := by rw [hr]; dsimp only; rw [List.getD_eq_getElem?_getD, List.getElem?_eq_getElem (by omega)]; rfl
    have e : ((lessM X).getD i []).getD j false = lessB X (r i) (r j) := by
      unfold lessM
      rw [hn, List.getD_eq_getElem?_getD (l := List.map _ _), List.getElem?_map, gi]
      dsimp only [Option.map_some, Option.getD_some]
      rw [List.getD_eq_getElem?_getD, List.getElem?_map, gj]; rfl
    have pw := List.pairwise_iff_getElem.mp (insRow_pw X n) i j (by omega) (by omega) hij
    have ri : (insRow X n)[i]'(by omega) = r i := by
      rw [List.getElem?_eq_getElem (by omega)] at gi; exact Option.some.inj gi
    have rj : (insRow X n)[j]'(by omega) = r j := by
      rw [List.getElem?_eq_getElem (by omega)] at gj; exact Option.some.inj gj
    rw [ri, rj] at pw
    have ht : tOf X (r i) ≤ tOf X (r j) := by
      have n1 := nOf_le X (r i)
      have n2 := nOf_le X (r j)
      unfold kv at pw; omega
    rw [e]
    unfold lessB
    rw [decide_eq_true ht, Bool.and_true]
    refine decide_eq_decide.mpr ⟨S.lt i j (by omega) hj, fun q => ?_⟩
    rcases Nat.lt_trichotomy (nOf X (r i)) (nOf X (r j)) with z | z | z
    · exact z
    · have := S.eq i j (by omega) hj z hij; omega
    · have := S.lt j i hj (by omega) z; omega
  refine ⟨fu, up, fd, down, ?_, ?_, e3, e4, e5, e6, fun k _ _ => ?_, fun k _ _ => ?_⟩
  · rw [hn, ← e1, ← hrow, tr true _ _ pu (fun k hk => List.mem_range.mp hk), hll]
  · rw [hn, ← e2, ← hrow, ← List.map_reverse, tr false _ _ pd (fun k hk => List.mem_range.mp (List.mem_reverse.mp hk)), List.map_reverse, hll]
  · rw [hn]; exact (e7 _ hM k).1
  · rw [hn]; exact (e7 _ hM k).2
end
section
theorem rsL7 : True := by w_top off; k_with_none; trivial
open PySem PySem.W PyProof.Rows PySem.Calls PyProof.Rows.LSm
variable {fa : Addr}
local macro_rules | `(tactic| k_inst) => `(tactic| (refine' instNN ?N ?a ?b; (case N => assumption); (case a => k_mem); (case b => k_mem)))
local macro_rules | `(tactic| k_inst) => `(tactic| first
  | (refine' instGL ?a ?F ?N ?m; (case a => assumption); (case F => assumption); (case N => assumption); (case m => k_mem))
  | (refine' instG ?a ?b ?k; (case a => assumption); (case b => assumption); (case k => exact Fr.keep (by assumption))))
local macro_rules | `(tactic| k_mem) => `(tactic| assumption)
local macro_rules | `(tactic| k_inst) => `(tactic| assumption)
theorem markGetH {w : World} {A : Around} {E : Value → Shared → Prop} {s : Shared} {md : Addr} {kvs : List (Str × Value)} {x : Str} {t : Tok} {v : Value} {Q : Value → Shared → Prop} {value slice : Expr}
    (hd : s.heap.DictOf (strKind VW w) md kvs) (hv : valueAt kvs x = some v) (h : ∀ tk, Q v { s with toks := tk })
    (hs : subscripted slice false (.ref md) (.str x t) = operate [.ref md, .str x t] (getItem (.ref md) (.str x t)) := by with_unfolding_all rfl) :
    wpAny (model VW w) A (subscriptTail value slice (.ref md) (.str x t)) Q E s :=
  tail_any hd.typeIs slot_dict_getitem.lookup (wpAny_getItem_of (strKind_is _ _ _ _) hd.mapOf hv (h _)) hs
/-- a word's item in the row -/
theorem rowItem {X rl : List Nat} {rv : List (Str × Tok)} {i k : Nat} {v : Value} (hrv : rv.map (·.1) = rl.map (fun k => wstr X (some k))) (hk : rl[i]? = some k) (hv : (strValues rv).toArray[i]? = some v) : ∃ t, v = .str (wstr X (some k)) t := by
  have q1 := congrArg (fun l => l[i]?) hrv
  simp only [List.getElem?_map, hk, Option.map_some] at q1
  obtain ⟨p2, hp2, hp3⟩ := Option.map_eq_some_iff.mp q1
  rw [List.getElem?_toArray, strValues, List.getElem?_map, hp2] at hv
  exact ⟨p2.2, by rw [← hp3]; exact (Option.some.inj hv).symm⟩
theorem law7 {w : World} {mean : ExcName → Option Value} {mg mb : Str → Option Value} {A : Around} {g : Heap} {s : Shared} {Q : Flow → Shared → Prop} {L : Nat} {h : Heap} {tk : Nat} {m : Str → Option Value}
  {o1 o2 o3 o4 o5 o6 o7 : Obj} {x dx sr la pb lw ln md rw cr : Nat} {rv : List (Str × Tok)} {ps : Array Value} {tx : Str} {imm : List (Addr × Obj)} {es : List DictEntry} {t0 : Tok} {wv : List (Str × Tok)} {cw : Nat} {X : List Nat} (sc : Scope) (hsc : sc = lawD.2) (bd : List Stmt) (hbd : bd = lawD.1.drop 7)
  (F : Fr g L h m) (N : News g L h ((L + 1, o1) :: (L + 2, o2) :: (L + 3, o3) :: (L + 4, o4) :: (L + 5, o5) :: (L + 6, o6) :: (L + 7, o7) :: (180, tabObj #[]) :: (187, tabObj ps) :: (dx, dictOf es 4) :: (la, listOf #[.int (tx.cps.size : Nat) t0] 0) :: (pb, listOf #[] 0) :: (lw, listOf (strValues wv).toArray cw) :: (rw, listOf (strValues rv).toArray cr) :: imm))
  (hm : m (Str.ofString "words") = some (.ref lw))
  (hd1 : o1.data = .cell (some (.ref x))) (hd2 : o2.data = .cell (some (.ref rw))) (hd3 : o3.data = .cell none) (hd4 : o4.data = .cell none) (hd5 : o5.data = .cell none) (hd6 : o6.data = .cell none) (hd7 : o7.data = .cell (some (.ref md)))
  (hes : LxEs w.params ln sr pb es) (hW : LawS w L x dx sr la pb lw tx imm) (hmk : ∀ g', (∀ q ∈ imm, g'.get? q.1 = some q.2) → MkAt w g' md X) (hrv : rv.map (·.1) = (insRow X X.length).map (fun k => wstr X (some k))) (hrw : @LT.lt Nat _ lw rw ∧ @LT.lt Nat _ dx rw ∧ @LT.lt Nat _ la rw ∧ @LT.lt Nat _ pb rw) (hri : ∀ q ∈ imm, q.1 ≠ rw) (hX : X.length = 5 ∨ X.length = 6) (hX24 : ∀ i, i < X.length → X.getD i 0 < 24)
  (G : Gr w mean mg mb (A.deeper (lawE fa sc L)) 20 g) (C1 : CodeHd g 184 180) (C3 : CodeHd g 189 187)
  (hQ : ∀ h' tk' m', Fr g L h' m' → GrownAt 180 h' → GrownAt 187 h' → Q (.ret (.bool true)) { s with heap := h', toks := tk' }) :
  wpAny (model VW w) (A.deeper (lawE fa sc L)) (execs bd (lawE fa sc L)) Q (fun _ _ => False) { s with heap := h, toks := tk } := by
  conv at hsc => rhs; whnf
  conv at hbd => rhs; whnf
  subst hsc
  subst hbd
  obtain ⟨hdl, dp, fr, gd, un⟩ := A
  obtain rfl : hdl = none := G.hh
  have X' := G.X
  have T' := G.T
  have hW0 := hW
  have wlF := hW.lit
  have hlx := hW.lex
  have w1 := hW.h1
  have w2 := hW.h2
  have w3 := hW.h3
  have w4 := hW.h4
  have w5 := hW.h5
  have w6 := hW.h6
  have w7 := hW.h7
  have w8 := hW.h8
  have wx := hW.hx
  have w9 := hW.h9
  obtain ⟨r1, r2, r3, r4⟩ := hrw
  have k1 : @LT.lt Nat _ 187 rw := Nat.lt_trans wlF.c1 r1
  have k2 : @LT.lt Nat _ (L + 7) rw := Nat.lt_trans w2 r1
  have hrl : rv.length = X.length := by have := congrArg List.length hrv; simpa [insRow_len] using this
  k_with "stop" => (with_reducible show wpAny _ _ (call (Value.ref _) _ _) _ _ _)
  k_steps
  k_with_none
  rename Fr _ _ _ _ => F1
  rename News _ _ _ _ => N1
  refine callOn F1 N1 [] _ (fun _ h => nomatch h) (fun _ h => h) (fun _ _ _ h => nomatch h) (fun g' st' sz' O' hg' hk' => ?_)
  have hrl' : g'.IsList rw (strValues rv).toArray := ⟨_, hg' (rw, listOf (strValues rv).toArray cr) (memAt 13 rfl), rfl, cr, rfl⟩
  obtain ⟨pp, hpp⟩ : ∃ pp, pp = (insRow X X.length).map fun k => (tOf X k, X.getD k 0 / 3 % 4, 97 + k) := ⟨_, rfl⟩
  have hppl : pp.length = X.length := by rw [hpp, List.length_map, insRow_len]
  refine lawAhead (ps := pp) O' ((G.keeps st').le (by omega)) hrl' ?_ ?_ (by omega) ?_
  · rw [hrv, hpp, List.map_map]; rfl
  · intro p hp
    rw [hpp] at hp
    obtain ⟨k, hk, rfl⟩ := List.mem_map.mp hp
    have := insRow_lt X _ k hk
    dsimp only
    exact ⟨by unfold tOf; omega, by omega, by omega, by omega⟩
  intro D c rs h2 tk2 hrs O2
  refine ⟨_, h2, tk2, _, rfl, rfl, O2, fun F2 N2 => ?_⟩
  have dj := djOf O2 hg'
  clear hg' hk' O' O2 F1 N1 hrl'
  dsimp only [List.cons_append] at N2
  have dj' : ∀ q ∈ (D, listOf (refsOf rs).toArray c) :: rs, ∀ p ∈ (L + 1, o1) :: (L + 2, o2) :: (L + 3, o3) :: (L + 4, o4) :: (L + 5, o5) :: (L + 6, o6) :: (L + 7, o7) :: (180, tabObj #[]) :: (187, tabObj ps) :: (dx, dictOf es 4) :: (la, listOf #[.int (tx.cps.size : Nat) t0] 0) :: (pb, listOf #[] 0) :: (lw, listOf (strValues wv).toArray cw) :: (rw, listOf (strValues rv).toArray cr) :: imm, p.1 ≠ q.1 := dj
  obtain ⟨im3, him3⟩ : ∃ im3, im3 = (D, listOf (refsOf rs).toArray c) :: (rs ++ imm) := ⟨_, rfl⟩
  replace N2 : News g _ _ ((L + 1, o1) :: (L + 2, o2) :: (L + 3, o3) :: (L + 4, o4) :: (L + 5, o5) :: (L + 6, o6) :: (L + 7, o7) :: (180, tabObj #[]) :: (187, tabObj ps) :: (dx, dictOf es 4) :: (la, listOf #[.int (tx.cps.size : Nat) t0] 0) :: (pb, listOf #[] 0) :: (lw, listOf (strValues wv).toArray cw) :: (rw, listOf (strValues rv).toArray cr) :: im3) := newsSub N2 (by
    rw [him3]
    refine List.forall_mem_cons.mpr ⟨.tail _ (List.mem_append_right _ (.head _)), List.forall_mem_cons.mpr ⟨.tail _ (List.mem_append_right _ (.tail _ (.head _))), List.forall_mem_cons.mpr ⟨.tail _ (List.mem_append_right _ (memAt 2 rfl)), List.forall_mem_cons.mpr ⟨.tail _ (List.mem_append_right _ (memAt 3 rfl)), List.forall_mem_cons.mpr ⟨.tail _ (List.mem_append_right _ (memAt 4 rfl)), List.forall_mem_cons.mpr ⟨.tail _ (List.mem_append_right _ (memAt 5 rfl)), List.forall_mem_cons.mpr ⟨.tail _ (List.mem_append_right _ (memAt 6 rfl)), List.forall_mem_cons.mpr ⟨.tail _ (List.mem_append_right _ (memAt 7 rfl)), List.forall_mem_cons.mpr ⟨.tail _ (List.mem_append_right _ (memAt 8 rfl)), List.forall_mem_cons.mpr ⟨.tail _ (List.mem_append_right _ (memAt 9 rfl)), List.forall_mem_cons.mpr ⟨.tail _ (List.mem_append_right _ (memAt 10 rfl)), List.forall_mem_cons.mpr ⟨.tail _ (List.mem_append_right _ (memAt 11 rfl)), List.forall_mem_cons.mpr ⟨.tail _ (List.mem_append_right _ (memAt 12 rfl)), List.forall_mem_cons.mpr ⟨.tail _ (List.mem_append_right _ (memAt 13 rfl)), List.forall_mem_cons.mpr ⟨.head _, fun q hq => .tail _ ?_⟩⟩⟩⟩⟩⟩⟩⟩⟩⟩⟩⟩⟩⟩⟩
    rcases List.mem_append.mp hq with hq | hq
    · exact List.mem_append_left _ hq
    · exact List.mem_append_right _ (memDrop 14 hq))
  have him : ∀ q ∈ imm, q ∈ im3 := fun q hq => by rw [him3]; exact .tail _ (List.mem_append_right _ hq)
  k_with "stop" => (with_reducible show wpAny _ _ (eval (Expr.ListComp _ _ _ _) _) _ _ _)
  k_steps
  rename Fr _ _ _ _ => F3
  rename News _ _ _ _ => N3
  refine listComp_ (cl := [(Str.ofString "row", L + 2), (Str.ofString "marks", L + 7)]) rfl rfl (by decide) ?_
  k_with_none
  k_with "stop" => (with_reducible show wpAny _ _ (pyIter _) _ _ _)
  k_steps
  obtain ⟨rl, hrl0⟩ : ∃ rl, rl = insRow X X.length := ⟨_, rfl⟩
  rw [← hrl0] at hrv
  have hrll : rl.length = X.length := by rw [hrl0, insRow_len]
  have hrX : ∀ k ∈ rl, k < X.length := by rw [hrl0]; exact insRow_lt X _
  have hlr := isListN N3 (l := rw) (items := (strValues rv).toArray) (c := cr) (by k_mem)
  have hrz : (strValues rv).toArray.size = X.length := by simp [strValues, hrl]
  refine' compList (frz := [(rw, listOf (strValues rv).toArray cr)]) (m := _) hlr (.inr ⟨_, .head _⟩) rfl (by rw [hrz, sizeLine_eq]; omega) (fun C i ys m₂ news₂ => Ex3 fun (rs2 : List (Addr × Obj)) (cc : Obj) (v₀ : Option Value) => C6 (ys = refsOf rs2) (RowsAre BoolsAre rs2 ((rl.take i).map fun a => rl.map fun b => lessB X a b)) (cc.data = .cell v₀) ((∀ q ∈ im3 ++ rs2, q.1 ≠ C + 1)) (@LT.lt Nat _ rw C) (news₂ = (C + 1, cc) :: (L + 1, o1) :: (L + 2, o2) :: (L + 3, o3) :: (L + 4, o4) :: (L + 5, o5) :: (L + 6, o6) :: (L + 7, o7) :: (180, tabObj #[]) :: (187, tabObj ps) :: (dx, dictOf es 4) :: (la, listOf #[.int (tx.cps.size : Nat) t0] 0) :: (pb, listOf #[] 0) :: (lw, listOf (strValues wv).toArray cw) :: (rw, listOf (strValues rv).toArray cr) :: (im3 ++ rs2))) ?hfz F3 N3 ?hJ ?turn ?done
  case hfz =>
    rintro C i ys m₁ news₁ ⟨_, _, _, _, _, _, _, _, rfl⟩ q hq
    rw [List.mem_singleton.mp hq]
    exact memAt 14 rfl
  case hJ => exact fun C hC => ⟨[], _, none, rfl, .nil, rfl, fun q hq => Nat.ne_of_lt (Nat.lt_succ_of_lt (hC q (memDrop 14 (List.append_nil im3 ▸ hq)))), hC (rw, _) (by k_mem), by rw [List.append_nil]; rfl⟩
  case turn =>
    rintro I C Dq oL oI i v ys cc2 mc₁ nw₁ h12 tk12 dc2 ld2 iD2 hj hv ⟨rs2, cc, v₀, rfl, hrs2, hcc, hrc, hrwC, rfl⟩ hap F12 N12
    unfold CompTurn
    have iD' := ltN iD2
    have ld'' := ltN ld2
    have dc'' : @Eq Nat (Dq + 1) C := dc2
    have hi : i < rl.length := by rw [hrll]; rw [hrz] at hj; exact hj
    obtain ⟨ka, hka⟩ : ∃ ka, rl[i]? = some ka := ⟨_, List.getElem?_eq_getElem hi⟩
    have hkaX := hrX ka (List.mem_of_getElem? hka)
    obtain ⟨tv, rfl⟩ := rowItem hrv hka hv
    k_with_none
    k_with "stop" => (first | (with_reducible show wpAny _ _ (tests _ _) _ _ _) | (with_reducible show wpAny _ _ (eval (Expr.ListComp _ _ _ _) _) _ _ _))
    k_steps
    refine tests_nil ?_
    rw [if_pos rfl]
    k_steps
    rename Fr _ _ _ _ => F13
    rename News _ _ _ _ => N13
    rename Obj => o3'
    refine listComp_ (cl := [(Str.ofString "one", C + 1), (Str.ofString "marks", L + 7)]) rfl rfl (by decide) ?_
    k_with_none
    k_with "stop" => (with_reducible show wpAny _ _ (pyIter _) _ _ _)
    k_steps
    have hlr2 := isListN N13 (l := rw) (items := (strValues rv).toArray) (c := cr) (by k_mem)
    refine' compList (frz := [(rw, listOf (strValues rv).toArray cr)]) (m := _) hlr2 (.inr ⟨_, .head _⟩) rfl (by rw [hrz, sizeLine_eq]; omega) (fun C2 j ys m₂ news₂ => BoolsAre ys ((rl.take j).map fun b => lessB X ka b) ∧ news₂ = (Dq, listOf (refsOf rs2).toArray cc2) :: (I, oI) :: (L, oL) :: (C + 1, o3') :: (L + 1, o1) :: (L + 2, o2) :: (L + 3, o3) :: (L + 4, o4) :: (L + 5, o5) :: (L + 6, o6) :: (L + 7, o7) :: (180, tabObj #[]) :: (187, tabObj ps) :: (dx, dictOf es 4) :: (la, listOf #[.int (tx.cps.size : Nat) t0] 0) :: (pb, listOf #[] 0) :: (lw, listOf (strValues wv).toArray cw) :: (rw, listOf (strValues rv).toArray cr) :: (im3 ++ rs2)) ?hfz4 F13 N13 ?hJ4 ?turn4 ?done4
    case hfz4 =>
      rintro C2 j ys m₁ news₁ ⟨_, rfl⟩ q hq
      rw [List.mem_singleton.mp hq]
      exact memAt 17 rfl
    case hJ4 => exact fun C2 _ => ⟨.nil, rfl⟩
    case turn4 =>
      rintro I2 C2 D2 oL2 oI2 j v2 ys3 cc3 mc₂ nw₂ h14 tk14 dc3 ld3 iD3 hj2 hv2 ⟨hys3, rfl⟩ hap2 F14 N14
      unfold CompTurn
      have hj3 : j < rl.length := by rw [hrll]; rw [hrz] at hj2; exact hj2
      obtain ⟨kb, hkb⟩ : ∃ kb, rl[j]? = some kb := ⟨_, List.getElem?_eq_getElem hj3⟩
      have hkbX := hrX kb (List.mem_of_getElem? hkb)
      obtain ⟨tv2, rfl⟩ := rowItem hrv hkb hv2
      k_with_none
      k_with "stop" => (first | (with_reducible show wpAny _ _ (tests _ _) _ _ _) | (with_reducible show wpAny _ _ (subscriptTail _ _ _ _) _ _ _) | (with_reducible show wpAny _ _ (call (Value.ref _) _ _) _ _ _))
      k_steps
      refine tests_nil ?_
      rw [if_pos rfl]
      rename Fr _ _ _ _ => F15
      rename News _ _ _ _ => N15
      obtain ⟨kvs, hkv, hkvs⟩ := hmk _ (fun q hq => (N15 q (memDrop 21 (List.mem_append_left _ (him q hq)))).1)
      obtain ⟨aa, hva, dwa, ewa, hwa1, hwa2, hwa3⟩ := hkvs ka hkaX
      obtain ⟨ab, hvb, dwb, ewb, hwb1, hwb2, hwb3⟩ := hkvs kb hkbX
      have hIa : InstAt _ aa (instObj 152 dwa) 152 (some (dictOf ewa 5)) := ⟨hwa1, rfl, rfl, hwa2⟩
      have hwa3' := hwa3
      obtain ⟨y1, y2, y3, y4, y5, rv2, nv2, tn2, tt2, rfl⟩ := hwa3
      k_steps
      refine itemZ' (x := wstr X (some ka)) (l := wl ka (X.getD ka 0)) (i := -1) (c := 97 + ka) rfl (by have := wl_len ka (X.getD ka 0); omega) (by have := wl_pos ka (X.getD ka 0); omega) (by omega) (wl_last _ _) ?_
      intro t24 tk24
      refine markGetH hkv hva ?_
      intro tk25
      k_steps
      refine itemZ' (x := wstr X (some kb)) (l := wl kb (X.getD kb 0)) (i := -1) (c := 97 + kb) rfl (by have := wl_len kb (X.getD kb 0); omega) (by have := wl_pos kb (X.getD kb 0); omega) (by omega) (wl_last _ _) ?_
      intro t34 tk34
      refine markGetH hkv hvb ?_
      intro tk35
      k_steps
      rename Fr _ _ _ _ => F16
      rename News _ _ _ _ => N16
      refine callOn F16 N16 [] _ (fun _ h => nomatch h) (fun _ h => h) (fun _ _ _ h => nomatch h) (fun g' st' sz' O' hg' hk' => ?_)
      have kp : Heap.StaysIn _ g' := fun b o e => hk' b o e (fun _ h => nomatch h)
      refine wsLess O' ((G.keeps st').le (by omega)) (WsAt.keeps ⟨dwa, _, hwa1, hwa2, hwa3'⟩ kp) (WsAt.keeps ⟨dwb, ewb, hwb1, hwb2, hwb3⟩ kp) ?_
      intro h17 tk17 O17
      refine ⟨_, h17, tk17, [], rfl, rfl, O17, fun F17 N17 => ?_⟩
      clear hg' hk' O' O17 F16 N16
      dsimp only [List.nil_append] at N17
      refine ⟨_, _, _, _, rfl, F17, N17, hap2, ?_, rfl⟩
      rw [List.take_add_one, hkb, List.map_append]
      exact BoolsAre.snoc hys3
    case done4 =>
      rintro C2 D2 ys3 cc3 mc₂ nw₂ h14 tk14 dc3 ld3 ⟨hys3, rfl⟩ hap2 F14 N14
      have ld3' := ltN ld3
      have hD2 : C + 1 ≠ D2 := hap2 (C + 1, o3') (by k_mem)
      have hD2' := neN hD2
      rw [hrz, ← hrll, List.take_length] at hys3
      refine ⟨_, _, _, ((C + 1, o3') :: (L + 1, o1) :: (L + 2, o2) :: (L + 3, o3) :: (L + 4, o4) :: (L + 5, o5) :: (L + 6, o6) :: (L + 7, o7) :: (180, tabObj #[]) :: (187, tabObj ps) :: (dx, dictOf es 4) :: (la, listOf #[.int (tx.cps.size : Nat) t0] 0) :: (pb, listOf #[] 0) :: (lw, listOf (strValues wv).toArray cw) :: (rw, listOf (strValues rv).toArray cr) :: (im3 ++ (rs2 ++ [(D2, listOf ys3.toArray cc3)]))), rfl, F14, newsSub N14 ?_, ?_, rs2 ++ [(D2, listOf ys3.toArray cc3)], o3', _, refs_snoc', ?_, by assumption, ?_, hrwC, rfl⟩
      · refine List.forall_mem_cons.mpr ⟨.tail _ (.head _), List.forall_mem_cons.mpr ⟨memAt 2 rfl, List.forall_mem_cons.mpr ⟨memAt 3 rfl, List.forall_mem_cons.mpr ⟨memAt 4 rfl, List.forall_mem_cons.mpr ⟨memAt 5 rfl, List.forall_mem_cons.mpr ⟨memAt 6 rfl, List.forall_mem_cons.mpr ⟨memAt 7 rfl, List.forall_mem_cons.mpr ⟨memAt 8 rfl, List.forall_mem_cons.mpr ⟨memAt 9 rfl, List.forall_mem_cons.mpr ⟨memAt 10 rfl, List.forall_mem_cons.mpr ⟨memAt 11 rfl, List.forall_mem_cons.mpr ⟨memAt 12 rfl, List.forall_mem_cons.mpr ⟨memAt 13 rfl, List.forall_mem_cons.mpr ⟨memAt 14 rfl, List.forall_mem_cons.mpr ⟨memAt 15 rfl, List.forall_mem_cons.mpr ⟨memAt 16 rfl, List.forall_mem_cons.mpr ⟨memAt 17 rfl, List.forall_mem_cons.mpr ⟨memAt 18 rfl, fun q hq => ?_⟩⟩⟩⟩⟩⟩⟩⟩⟩⟩⟩⟩⟩⟩⟩⟩⟩⟩
        rcases List.mem_append.mp hq with hq | hq
        · exact memDrop 19 (List.mem_append_left _ hq)
        rcases List.mem_append.mp hq with hq | hq
        · exact memDrop 19 (List.mem_append_right _ hq)
        · rw [List.mem_singleton.mp hq]; exact .head _
      · have hh : ∀ q ∈ (C + 1, o3') :: (L + 1, o1) :: (L + 2, o2) :: (L + 3, o3) :: (L + 4, o4) :: (L + 5, o5) :: (L + 6, o6) :: (L + 7, o7) :: (180, tabObj #[]) :: (187, tabObj ps) :: (dx, dictOf es 4) :: (la, listOf #[.int (tx.cps.size : Nat) t0] 0) :: (pb, listOf #[] 0) :: (lw, listOf (strValues wv).toArray cw) :: (rw, listOf (strValues rv).toArray cr) :: (im3 ++ rs2), q.1 ≠ I ∧ q.1 ≠ Dq ∧ q.1 ≠ L := apSwap (P := fun a => a ≠ I ∧ a ≠ Dq ∧ a ≠ L) hap
        refine List.forall_mem_cons.mpr ⟨hh _ (.head _), List.forall_mem_cons.mpr ⟨hh _ (.tail _ (.head _)), List.forall_mem_cons.mpr ⟨hh _ (memAt 2 rfl), List.forall_mem_cons.mpr ⟨hh _ (memAt 3 rfl), List.forall_mem_cons.mpr ⟨hh _ (memAt 4 rfl), List.forall_mem_cons.mpr ⟨hh _ (memAt 5 rfl), List.forall_mem_cons.mpr ⟨hh _ (memAt 6 rfl), List.forall_mem_cons.mpr ⟨hh _ (memAt 7 rfl), List.forall_mem_cons.mpr ⟨hh _ (memAt 8 rfl), List.forall_mem_cons.mpr ⟨hh _ (memAt 9 rfl), List.forall_mem_cons.mpr ⟨hh _ (memAt 10 rfl), List.forall_mem_cons.mpr ⟨hh _ (memAt 11 rfl), List.forall_mem_cons.mpr ⟨hh _ (memAt 12 rfl), List.forall_mem_cons.mpr ⟨hh _ (memAt 13 rfl), List.forall_mem_cons.mpr ⟨hh _ (memAt 14 rfl), fun q hq => ?_⟩⟩⟩⟩⟩⟩⟩⟩⟩⟩⟩⟩⟩⟩⟩
        rcases List.mem_append.mp hq with hq | hq
        · exact hh q (memDrop 15 (List.mem_append_left _ hq))
        rcases List.mem_append.mp hq with hq | hq
        · exact hh q (memDrop 15 (List.mem_append_right _ hq))
        · rw [List.mem_singleton.mp hq]
          refine ⟨neN ?_, neN ?_, neN ?_⟩ <;> (dsimp only; omega)
      · rw [List.take_add_one, hka, List.map_append]
        exact hrs2.snoc hys3
      · intro q hq
        rw [← List.append_assoc] at hq
        rcases List.mem_append.mp hq with hq | hq
        · exact hrc q hq
        · rw [List.mem_singleton.mp hq]; exact neN (Ne.symm hD2')
  case done =>
    rintro C Dq ys cc2 mc₁ nw₁ h12 tk12 dc2 ld2 ⟨rs2, cc, v₀, rfl, hrs2, hcc, hrc, hrwC, rfl⟩ hap F12 N12
    rw [hrz, ← hrll, List.take_length] at hrs2
    k_with_none
    k_with "stop" => (with_reducible show wpAny _ _ (compareOp CmpOp.NotEq _ _) _ _ _)
    k_steps
    rename News _ _ _ _ => N13
    rename Fr _ _ _ _ => F13
    have hM : ahdM pp = rl.map fun a => rl.map fun b => lessB X a b := by rw [hpp, ← hrl0]; exact ahdM_less X rl
    rw [hM] at hrs
    have g3 : ∀ q ∈ im3, q ∈ (Dq, listOf (refsOf rs2).toArray cc2) :: (C + 1, cc) :: (L + 1, o1) :: (L + 2, o2) :: (L + 3, o3) :: (L + 4, o4) :: (L + 5, o5) :: (L + 6, o6) :: (L + 7, o7) :: (180, tabObj #[]) :: (187, tabObj ps) :: (dx, dictOf es 4) :: (la, listOf #[.int (tx.cps.size : Nat) t0] 0) :: (pb, listOf #[] 0) :: (lw, listOf (strValues wv).toArray cw) :: (rw, listOf (strValues rv).toArray cr) :: (im3 ++ rs2) := fun q hq => memDrop 16 (List.mem_append_left _ hq)
    have g4 : ∀ q ∈ rs2, q ∈ (Dq, listOf (refsOf rs2).toArray cc2) :: (C + 1, cc) :: (L + 1, o1) :: (L + 2, o2) :: (L + 3, o3) :: (L + 4, o4) :: (L + 5, o5) :: (L + 6, o6) :: (L + 7, o7) :: (180, tabObj #[]) :: (187, tabObj ps) :: (dx, dictOf es 4) :: (la, listOf #[.int (tx.cps.size : Nat) t0] 0) :: (pb, listOf #[] 0) :: (lw, listOf (strValues wv).toArray cw) :: (rw, listOf (strValues rv).toArray cr) :: (im3 ++ rs2) := fun q hq => memDrop 16 (List.mem_append_right _ hq)
    have hDi : (D, listOf (refsOf rs).toArray c) ∈ im3 := by rw [him3]; exact .head _
    have hRi : ∀ q ∈ rs, q ∈ im3 := fun q hq => by rw [him3]; exact .tail _ (List.mem_append_left _ hq)
    refine neMat (c1 := cc2) (c2 := c) (N13 _ (.head _)).1 (N13 _ (g3 _ hDi)).1 hrs2 hrs (fun q hq => (N13 q (g4 q hq)).1) (fun q hq => (N13 q (g3 q (hRi q hq))).1) (by have := G.units; omega) ?_
    replace N13 : News g _ _ ((L + 1, o1) :: (L + 2, o2) :: (L + 3, o3) :: (L + 4, o4) :: (L + 5, o5) :: (L + 6, o6) :: (L + 7, o7) :: (180, tabObj #[]) :: (187, tabObj ps) :: (dx, dictOf es 4) :: (la, listOf #[.int (tx.cps.size : Nat) t0] 0) :: (pb, listOf #[] 0) :: (lw, listOf (strValues wv).toArray cw) :: (rw, listOf (strValues rv).toArray cr) :: im3) := newsSub N13 (List.forall_mem_cons.mpr ⟨memAt 2 rfl, List.forall_mem_cons.mpr ⟨memAt 3 rfl, List.forall_mem_cons.mpr ⟨memAt 4 rfl, List.forall_mem_cons.mpr ⟨memAt 5 rfl, List.forall_mem_cons.mpr ⟨memAt 6 rfl, List.forall_mem_cons.mpr ⟨memAt 7 rfl, List.forall_mem_cons.mpr ⟨memAt 8 rfl, List.forall_mem_cons.mpr ⟨memAt 9 rfl, List.forall_mem_cons.mpr ⟨memAt 10 rfl, List.forall_mem_cons.mpr ⟨memAt 11 rfl, List.forall_mem_cons.mpr ⟨memAt 12 rfl, List.forall_mem_cons.mpr ⟨memAt 13 rfl, List.forall_mem_cons.mpr ⟨memAt 14 rfl, List.forall_mem_cons.mpr ⟨memAt 15 rfl, g3⟩⟩⟩⟩⟩⟩⟩⟩⟩⟩⟩⟩⟩⟩)
    k_with_none
    k_with "stop" => (with_reducible show wpAny _ _ (execs (Stmt.Assign _ _ _ :: _) _) _ _ _)
    k_steps
    dsimp only
    rename News _ _ _ _ => N14
    rename Fr _ _ _ _ => F14
    have hni3 : ∀ q ∈ im3, ∀ a ∈ ([L + 1, L + 2, L + 3, L + 4, L + 5, L + 6, L + 7, 180, 187, dx, la, pb, lw, rw] : List Addr), q.1 ≠ a := by
      have hh : ∀ q ∈ (D, listOf (refsOf rs).toArray c) :: rs, ∀ a ∈ ([L + 1, L + 2, L + 3, L + 4, L + 5, L + 6, L + 7, 180, 187, dx, la, pb, lw, rw] : List Addr), q.1 ≠ a := by
        intro q hq a ha
        have d := dj q hq
        have e : ∃ o, (a, o) ∈ (L + 1, o1) :: (L + 2, o2) :: (L + 3, o3) :: (L + 4, o4) :: (L + 5, o5) :: (L + 6, o6) :: (L + 7, o7) :: (180, tabObj #[]) :: (187, tabObj ps) :: (dx, dictOf es 4) :: (la, listOf #[.int (tx.cps.size : Nat) t0] 0) :: (pb, listOf #[] 0) :: (lw, listOf (strValues wv).toArray cw) :: (rw, listOf (strValues rv).toArray cr) :: imm := by
          simp only [List.mem_cons, List.not_mem_nil, or_false] at ha
          rcases ha with rfl | rfl | rfl | rfl | rfl | rfl | rfl | rfl | rfl | rfl | rfl | rfl | rfl | rfl <;> exact ⟨_, by k_mem⟩
        obtain ⟨o, ho⟩ := e
        exact Ne.symm (d (a, o) ho)
      rw [him3]
      intro q hq
      rcases List.mem_cons.mp hq with rfl | hq
      · exact hh _ (.head _)
      rcases List.mem_append.mp hq with hq | hq
      · exact hh q (.tail _ hq)
      · intro a ha
        obtain ⟨u1, u2, u3, u4⟩ := w9 q hq
        have u5 := hri q hq
        simp only [List.mem_cons, List.not_mem_nil, or_false] at ha
        rcases ha with h0 | h0 | h0 | h0 | h0 | h0 | h0 | h0 | h0 | h0 | h0 | h0 | h0 | h0 <;> rw [h0] <;> first | assumption | exact neN (by omega)
    obtain ⟨fu, up, fd, down, p1, p2, p3, p4, p5, p6, p7, p8⟩ := plainLaw X hX hX24
    subst hrl0
    refine law9 (imm := im3) _ rfl _ rfl F14 N14 rfl hd1 hd2 hd3 hd4 hd5 hd6 hd7 hes (fun g' hg' => hlx g' fun q hq => hg' q (him q hq)) w1 w2 w3 w4 w5 w6 w7 w8 hni3 (fun g' hg' => hmk g' fun q hq => hg' q (him q hq)) hrv ⟨r1, r2, r3, r4⟩ hDi hRi hrs hX hX24 G C1 C3 p1 p2 p3 p4 p5 p6 p7 p8 hQ
end
section
theorem rsL6 : True := by w_top off; k_with_none; trivial
open PySem PySem.W PyProof.Rows PySem.Calls PyProof.Rows.LSm
variable {fa : Addr}
local macro_rules | `(tactic| k_inst) => `(tactic| (refine' instNN ?N ?a ?b; (case N => assumption); (case a => k_mem); (case b => k_mem)))
local macro_rules | `(tactic| k_inst) => `(tactic| first
  | (refine' instGL ?a ?F ?N ?m; (case a => assumption); (case F => assumption); (case N => assumption); (case m => k_mem))
  | (refine' instG ?a ?b ?k; (case a => assumption); (case b => assumption); (case k => exact Fr.keep (by assumption))))
local macro_rules | `(tactic| k_mem) => `(tactic| assumption)
theorem law6 {w : World} {mean : ExcName → Option Value} {mg mb : Str → Option Value} {A : Around} {g : Heap} {s : Shared} {Q : Flow → Shared → Prop} {L : Nat} {h : Heap} {tk : Nat} {m : Str → Option Value}
  {o1 o2 o3 o4 o5 o6 o7 : Obj} {x dx sr la pb lw ln md rw cr : Nat} {rv : List (Str × Tok)} {ps : Array Value} {tx : Str} {imm : List (Addr × Obj)} {es : List DictEntry} {t0 : Tok} {wv : List (Str × Tok)} {cw : Nat} {X : List Nat} (sc : Scope) (hsc : sc = lawD.2) (bd : List Stmt) (hbd : bd = lawD.1.drop 6)
  (F : Fr g L h m) (N : News g L h ((L + 1, o1) :: (L + 2, o2) :: (L + 3, o3) :: (L + 4, o4) :: (L + 5, o5) :: (L + 6, o6) :: (L + 7, o7) :: (180, tabObj #[]) :: (187, tabObj ps) :: (dx, dictOf es 4) :: (la, listOf #[.int (tx.cps.size : Nat) t0] 0) :: (pb, listOf #[] 0) :: (lw, listOf (strValues wv).toArray cw) :: (rw, listOf (strValues rv).toArray cr) :: imm))
  (hm : m (Str.ofString "words") = some (.ref lw))
  (hd1 : o1.data = .cell (some (.ref x))) (hd2 : o2.data = .cell (some (.ref rw))) (hd3 : o3.data = .cell none) (hd4 : o4.data = .cell none) (hd5 : o5.data = .cell none) (hd6 : o6.data = .cell none) (hd7 : o7.data = .cell (some (.ref md)))
  (hes : LxEs w.params ln sr pb es) (hW : LawS w L x dx sr la pb lw tx imm) (hmk : ∀ g', (∀ q ∈ imm, g'.get? q.1 = some q.2) → MkAt w g' md X) (hwv : wv.map (·.1) = wds X X.length) (hrv : rv.map (·.1) = (insRow X X.length).map (fun k => wstr X (some k))) (htab : TabOk ps imm lawQ) (hrw : @LT.lt Nat _ lw rw ∧ @LT.lt Nat _ dx rw ∧ @LT.lt Nat _ la rw ∧ @LT.lt Nat _ pb rw) (hri : ∀ q ∈ imm, q.1 ≠ rw) (hX : X.length = 5 ∨ X.length = 6) (hX24 : ∀ i, i < X.length → X.getD i 0 < 24)
  (G : Gr w mean mg mb (A.deeper (lawE fa sc L)) 20 g) (C1 : CodeHd g 184 180) (C3 : CodeHd g 189 187)
  (hQ : ∀ h' tk' m', Fr g L h' m' → GrownAt 180 h' → GrownAt 187 h' → Q (.ret (.bool true)) { s with heap := h', toks := tk' }) :
  wpAny (model VW w) (A.deeper (lawE fa sc L)) (execs bd (lawE fa sc L)) Q (fun _ _ => False) { s with heap := h, toks := tk } := by
  conv at hsc => rhs; whnf
  conv at hbd => rhs; whnf
  subst hsc
  subst hbd
  obtain ⟨hdl, dp, fr, gd, un⟩ := A
  obtain rfl : hdl = none := G.hh
  have X' := G.X
  have T' := G.T
  have hW0 := hW
  have wlF := hW.lit
  have hlx := hW.lex
  have w1 := hW.h1
  have w2 := hW.h2
  have w3 := hW.h3
  have w4 := hW.h4
  have w5 := hW.h5
  have w6 := hW.h6
  have w7 := hW.h7
  have w8 := hW.h8
  have wx := hW.hx
  have w9 := hW.h9
  replace F := Fr.as F [(Str.ofString "words", .ref lw)] (List.forall_mem_cons.mpr ⟨hm, List.forall_mem_nil _⟩)
  obtain ⟨r1, r2, r3, r4⟩ := hrw
  have k1 : @LT.lt Nat _ 187 rw := Nat.lt_trans wlF.c1 r1
  have k2 : @LT.lt Nat _ (L + 7) rw := Nat.lt_trans w2 r1
  have n187 : ∀ q ∈ imm, q.1 ≠ 187 := fun q hq => by have := ltN (w9 q hq).1; k_ne
  have hwl : wv.length = X.length := by have := congrArg List.length hwv; simpa [wds] using this
  have hwz : (strValues wv).toArray.size = X.length := by simp [strValues, hwl]
  k_with "stop" => (with_reducible show wpAny _ _ (eval (Expr.Lambda _ _ _ _) _) _ _ _)
  k_steps
  rename Fr _ _ _ _ => F8
  rename News _ _ _ _ => N8
  refine kla_eval rfl ?_
  refine' lamOn F8 N8 T' C3 rfl ?U htab rfl ?_
  case U => k_updF
  intro f c' ctv h9 tk9 ps9 nc9 oc9 vs9 tt9 F9 N9 htab9 hcm hd9 hq9 hnc9 hf9 hncf9
  clear F8 N8
  k_with_none
  k_with "stop" => (with_reducible show wpAny _ _ (call (Value.builtin "sorted") _ _) _ _ _)
  k_steps
  k_with_none
  have hsl := isListN N9 (l := lw) (items := (strValues wv).toArray) (c := cw) (.tail _ (List.mem_append_right _ (memAt 12 rfl)))
  refine sortOn (X := X) (vs := strValues wv) (n := X.length) hX (by simp [strValues, hwl]) (G.le (by omega)) F9 N9 hsl ?_ ?_
  · intro g' st' hg' A2 s2 R2 k v hk hv O2 hdep hun hh2 hret2
    obtain ⟨hdl2, dp2, fr2, gd2, un2⟩ := A2
    obtain rfl : hdl2 = none := hh2
    obtain ⟨tv, rfl⟩ : ∃ t, v = .str (wstr X (some k)) t := by
      have e1 := congrArg (fun l => l[k]?) hwv
      simp only [wds, List.getElem?_map, List.getElem?_range hk, Option.map_some] at e1
      obtain ⟨q, hq, eq⟩ := Option.map_eq_some_iff.mp e1
      refine ⟨q.2, ?_⟩
      simp only [strValues, List.getElem?_map, hq, Option.map_some, Option.some.injEq] at hv
      rw [← hv, eq]; rfl
    have hf' := hg' _ (.head _)
    have hc'' : g'.get? c' = some oc9 := by
      rcases List.mem_append.mp hcm with hm2 | hm2
      · exact hg' _ (.tail _ (List.mem_append_left _ hm2))
      · exact hg' _ (.tail _ (List.mem_append_right _ (memDrop 14 hm2)))
    have k1 := hX24 k hk
    have hcnt := cntT (X.getD k 0 % 3) (by omega) (X.getD k 0 / 3 % 4) (by omega) k (by omega)
    refine enterL (k := 2) (binds := [(Str.ofString "one", .str (wstr X (some k)) tv)]) O2 ⟨X'.keeps st', T'.keeps st', rfl, by omega, by omega⟩ (O2.keep _ _ hf') ⟨c', oc9, vs9, tt9, rfl, O2.keep _ _ hc'', hd9, hq9⟩ rfl (locs rfl) ?_ (by decide)
    intro L2 h2 F2 N2 l2 G2 st3 eL
    have X2 := G2.X
    have T2 := G2.T
    k_with "stop" => (first | (with_reducible show wpAny _ _ (subscriptTail _ _ _ _) _ _ _) | (with_reducible show wpAny _ _ (call (Value.builtin "str.count") _) _ _ _) | (with_reducible show wpAny _ _ (call (Value.builtin "len") _) _ _ _))
    k_steps
    refine SC.count ?_
    rw [show Txt.count (wstr X (some k)) (Str.ofString "\t") = ((X.getD k 0 % 3 : Nat) : Int) from hcnt.1]
    k_steps
    have hlen : (wstr X (some k)).length = nOf X k + 1 := by
      show (st (wl k (X.getD k 0))).length = _
      rw [st_len]; unfold wl nOf; simp; omega
    refine P.len_str (by rw [hlen]; have := nOf_le X k; omega) ?_
    rw [hlen]
    k_steps
    refine itemZ' (x := wstr X (some k)) (l := wl k (X.getD k 0)) (i := -1) (c := 97 + k) rfl (by have := wl_len k (X.getD k 0); omega) (by have := wl_pos k (X.getD k 0); omega) (by omega) (wl_last _ _) ?_
    intro t24 tk24
    k_steps
    rename Fr _ _ _ _ => F43
    rename News _ _ _ _ => N43
    exact hret2 _ _ _ _ _ _ (onOf F43 N43)
  · intro h10 tk10 D c10 F10 N10 lD
    have hl2 : ((insRow X X.length).map fun i => (strValues wv).getD i Value.none) = strValues ((insRow X X.length).map fun i => wv.getD i (st [], 0)) := by
      unfold strValues
      rw [List.map_map]
      refine List.map_congr_left (fun i hi => ?_)
      have hi2 : i < wv.length := by rw [hwl]; exact insRow_lt X _ i hi
      rw [List.getD_eq_getElem?_getD, List.getElem?_map, List.getElem?_eq_getElem hi2]
      simp [List.getD_eq_getElem?_getD, List.getElem?_eq_getElem hi2]
    rw [hl2] at N10
    have hn6 : X.length ≤ 6 := by omega
    refine neStrs N10 (a := rw) (b := D) (l1 := rv) (c1 := cr) (.tail _ (.tail _ (List.mem_append_right _ (memAt 13 rfl)))) (.head _) ?_ ?_ (by have := G.units; omega) ?_
    · rw [hrv, List.map_map]
      refine List.map_congr_left (fun i hi => ?_)
      have hi2 : i < wv.length := by rw [hwl]; exact insRow_lt X _ i hi
      have e1 := congrArg (fun l => l[i]?) hwv
      simp only [wds, List.getElem?_map, List.getElem?_range (show i < X.length by omega), Option.map_some, List.getElem?_eq_getElem hi2] at e1
      simp only [Function.comp_apply, List.getD_eq_getElem?_getD, List.getElem?_eq_getElem hi2, Option.getD_some]
      exact (Option.some.inj e1).symm
    · rw [hrv]
      intro q hq
      obtain ⟨k, hk, rfl⟩ := List.mem_map.mp hq
      exact wl_ok (by have := insRow_lt X _ k hk; omega)
    replace N10 : News g _ _ ((L + 1, o1) :: (L + 2, o2) :: (L + 3, o3) :: (L + 4, o4) :: (L + 5, o5) :: (L + 6, o6) :: (L + 7, o7) :: (180, tabObj #[]) :: (187, tabObj ps9) :: (dx, dictOf es 4) :: (la, listOf #[.int (tx.cps.size : Nat) t0] 0) :: (pb, listOf #[] 0) :: (lw, listOf (strValues wv).toArray cw) :: (rw, listOf (strValues rv).toArray cr) :: (nc9 ++ imm)) := newsSub N10 (by
      refine List.forall_mem_cons.mpr ⟨.tail _ (.tail _ (List.mem_append_right _ (.head _))), List.forall_mem_cons.mpr ⟨.tail _ (.tail _ (List.mem_append_right _ (.tail _ (.head _)))), List.forall_mem_cons.mpr ⟨.tail _ (.tail _ (List.mem_append_right _ (memAt 2 rfl))), List.forall_mem_cons.mpr ⟨.tail _ (.tail _ (List.mem_append_right _ (memAt 3 rfl))), List.forall_mem_cons.mpr ⟨.tail _ (.tail _ (List.mem_append_right _ (memAt 4 rfl))), List.forall_mem_cons.mpr ⟨.tail _ (.tail _ (List.mem_append_right _ (memAt 5 rfl))), List.forall_mem_cons.mpr ⟨.tail _ (.tail _ (List.mem_append_right _ (memAt 6 rfl))), List.forall_mem_cons.mpr ⟨.tail _ (.tail _ (List.mem_append_right _ (memAt 7 rfl))), List.forall_mem_cons.mpr ⟨.tail _ (.tail _ (List.mem_append_right _ (memAt 8 rfl))), List.forall_mem_cons.mpr ⟨.tail _ (.tail _ (List.mem_append_right _ (memAt 9 rfl))), List.forall_mem_cons.mpr ⟨.tail _ (.tail _ (List.mem_append_right _ (memAt 10 rfl))), List.forall_mem_cons.mpr ⟨.tail _ (.tail _ (List.mem_append_right _ (memAt 11 rfl))), List.forall_mem_cons.mpr ⟨.tail _ (.tail _ (List.mem_append_right _ (memAt 12 rfl))), List.forall_mem_cons.mpr ⟨.tail _ (.tail _ (List.mem_append_right _ (memAt 13 rfl))), fun q hq => .tail _ (.tail _ ?_)⟩⟩⟩⟩⟩⟩⟩⟩⟩⟩⟩⟩⟩⟩
      rcases List.mem_append.mp hq with hq | hq
      · exact List.mem_append_left _ hq
      · exact List.mem_append_right _ (memDrop 14 hq))
    have hwB : ∀ q ∈ nc9, @LT.lt Nat _ rw q.1 := fun q hq => hnc9 q hq (rw, listOf (strValues rv).toArray cr) (memAt 13 rfl)
    k_with "stop" => (with_reducible show wpAny _ _ (execs (Stmt.Assign _ _ _ :: _) _) _ _ _)
    k_steps
    dsimp only
    refine law7 (imm := nc9 ++ imm) _ rfl _ rfl F10 N10 rfl hd1 hd2 hd3 hd4 hd5 hd6 hd7 hes ⟨fun g' hg => hlx g' (fun q hq => hg q (List.mem_append_right _ hq)), w1, w2, w3, w4, w5, w6, w7, w8, List.mem_append_right _ wx, fun q hq => ?_⟩ (fun g' hg => hmk g' (fun q hq => hg q (List.mem_append_right _ hq))) hrv ⟨r1, r2, r3, r4⟩ (fun q hq => ?_) hX hX24 G C1 C3 hQ
    · rcases List.mem_append.mp hq with hq | hq
      · have := ltN (hwB q hq)
        exact ⟨by omega, neN (by omega), neN (by omega), neN (by omega)⟩
      · exact w9 q hq
    · rcases List.mem_append.mp hq with hq | hq
      · have := ltN (hwB q hq); k_ne
      · exact hri q hq
end
section
theorem rsTLt : True := by w_top off; k_with_none; trivial
open PySem PySem.W PyProof.Rows PySem.Calls
abbrev tup2 (x y : Int) (t u : Tok) : Obj := { cls := .type "tuple", data := .seq #[.int x t, .int y u] }
theorem rcLtInt {prog : Program} {w : World} {A : Around} {s : Shared} {E : Value → Shared → Prop} {a b : Int} {t u : Tok} {Q : Value → Shared → Prop} (h : Q (.bool (decide (a < b))) s) : wpAny (model prog w) A (richCompare .Lt (.int a t) (.int b u)) Q E s :=
  show wpAny (model prog w) A (compareOp .Lt (.int a t) (.int b u)) Q E s from lt_int h
theorem tuple_ltAt (l b : Addr) (x1 y1 x2 y2 : Int) (t1 u1 t2 u2 : Tok) :
    Meets (Builtin.«tuple.__lt__» ⟨[.ref l, .ref b], []⟩)
      (fun A R s => s.heap.get? l = some (tup2 x1 y1 t1 u1) ∧ s.heap.get? b = some (tup2 x2 y2 t2 u2) ∧ R (.ok (.ret (.bool (decide (x1 < x2 ∨ x1 = x2 ∧ y1 < y2))))) s) :=
  .of_wp fun prog w A R s h => by
    obtain ⟨hp, g, d, tk, os⟩ := s; obtain ⟨hl, hb, h⟩ := h
    have f2 := AutoSeq1.sub_tuple_tuple
    wp_walk using AutoSeq1.wpAny_loadPart' hl, AutoSeq1.wpAny_loadPart' hb, wpAny_forIn_list _ (fun rest b s' => b.1 = none ∧ s' = ⟨hp, g, d, tk, os⟩ ∧ ((rest = [(.int x1 t1, .int x2 t2), (.int y1 u1, .int y2 u2)]) ∨ (x1 = x2 ∧ rest = [(.int y1 u1, .int y2 u2)]) ∨ (x1 = x2 ∧ y1 = y2 ∧ rest = []))) _
    case turn =>
      rintro ⟨y, x⟩ rest b s' ⟨hb', rfl, hz⟩
      rcases hz with hz | ⟨hx, hz⟩ | ⟨_, _, hz⟩
      · injection hz with h1 h2
        injection h1 with h3 h4
        subst h3 h4 h2
        refine wpAny_bind (wpAny_eqBool_int ?_)
        by_cases hx : x1 = x2
        · subst hx
          rw [beq_self_eq_true]
          wp_walk
          exact ⟨rfl, rfl, .inr (.inl ⟨rfl, rfl⟩)⟩
        · rw [show (x1 == x2) = false by rw [beq_eq_false_iff_ne]; exact hx]
          have e : decide (x1 < x2 ∨ x1 = x2 ∧ y1 < y2) = decide (x1 < x2) := decide_eq_decide.mpr (by omega)
          rw [e] at h
          wp_walk using rcLtInt
          exact ⟨_, rfl, h⟩
      · injection hz with h1 h2
        injection h1 with h3 h4
        subst h3 h4 h2
        refine wpAny_bind (wpAny_eqBool_int ?_)
        by_cases hy : y1 = y2
        · subst hy
          rw [beq_self_eq_true]
          wp_walk
          exact ⟨rfl, rfl, .inr (.inr ⟨hx, rfl, rfl⟩)⟩
        · rw [show (y1 == y2) = false by rw [beq_eq_false_iff_ne]; exact hy]
          have e : decide (x1 < x2 ∨ x1 = x2 ∧ y1 < y2) = decide (y1 < y2) := decide_eq_decide.mpr (by omega)
          rw [e] at h
          wp_walk using rcLtInt
          exact ⟨_, rfl, h⟩
      · cases hz
    case fin =>
      rintro ⟨b1, b2⟩ s' ⟨hb', rfl, hz⟩
      simp only at hb'
      subst hb'
      rcases hz with hz | ⟨_, hz⟩ | ⟨hx, hy, _⟩
      · cases hz
      · cases hz
      · have e : decide (x1 < x2 ∨ x1 = x2 ∧ y1 < y2) = false := decide_eq_false (by omega)
        rw [e] at h
        wp_walk
        exact ⟨_, rfl, by simpa [Builtin.Tuple.tupleCompareSizes] using h⟩
    case h =>
      exact ⟨rfl, rfl, .inl rfl⟩
theorem tupLt {prog : Program} {w : World} {A : Around} {s : Shared} {E : Value → Shared → Prop} {a b : Addr} {x1 y1 x2 y2 : Int} {t1 u1 t2 u2 : Tok} {Q : Value → Shared → Prop}
    (ha : s.heap.get? a = some (tup2 x1 y1 t1 u1)) (hb : s.heap.get? b = some (tup2 x2 y2 t2 u2)) (hu : A.units + 20 < cLine)
    (h : Q (.bool (decide (x1 < x2 ∨ x1 = x2 ∧ y1 < y2))) s) : wpAny (model prog w) A (compareOp .Lt (.ref a) (.ref b)) Q E s := by
  have ta : s.TypeIs (.ref a) "tuple" := ⟨_, ha, rfl⟩
  have tb : s.TypeIs (.ref b) "tuple" := ⟨_, hb, rfl⟩
  refine cmp_ofLt (wpAny_richCompare_same_room (op := .Lt) ta tb PySem.F.slot_tuple_lt (call_meets PySem.F.slot_tuple_lt ta PySem.F.entry_tuple_lt (PySem.F.args_tuple_lt_2 _ _) (tuple_ltAt a b x1 y1 x2 y2 t1 u1 t2 u2) ⟨ha, hb, ?_⟩) (by omega))
  exact ⟨(by intro e; cases e), h⟩
end
section
theorem rsL4 : True := by w_top off; k_with_none; trivial
open PySem PySem.W PyProof.Rows PySem.Calls PyProof.Rows.LSm
variable {fa : Addr}
local macro_rules | `(tactic| k_inst) => `(tactic| (refine' instNN ?N ?a ?b; (case N => assumption); (case a => k_mem); (case b => k_mem)))
local macro_rules | `(tactic| k_inst) => `(tactic| first
  | (refine' instGL ?a ?F ?N ?m; (case a => assumption); (case F => assumption); (case N => assumption); (case m => k_mem))
  | (refine' instG ?a ?b ?k; (case a => assumption); (case b => assumption); (case k => exact Fr.keep (by assumption))))
local macro_rules | `(tactic| k_mem) => `(tactic| assumption)
theorem splitHead {g h : Heap} {L f : Addr} {o : Obj} {l : List (Addr × Obj)} (N : News g L h ((f, o) :: l)) : ∃ ko, ko = o ∧ News g L h ((f, ko) :: l) := ⟨o, rfl, N⟩
theorem law4 {w : World} {mean : ExcName → Option Value} {mg mb : Str → Option Value} {A : Around} {g : Heap} {s : Shared} {Q : Flow → Shared → Prop} {L : Nat} {h : Heap} {tk : Nat} {m : Str → Option Value}
  {o1 o2 o3 o4 o5 o6 o7 : Obj} {x dx sr la pb lw ln md : Nat} {tx : Str} {imm : List (Addr × Obj)} {es : List DictEntry} {t0 : Tok} {wv : List (Str × Tok)} {cw : Nat} {X : List Nat} (sc : Scope) (hsc : sc = lawD.2) (bd : List Stmt) (hbd : bd = lawD.1.drop 4)
  (F : Fr g L h m) (N : News g L h ((L + 1, o1) :: (L + 2, o2) :: (L + 3, o3) :: (L + 4, o4) :: (L + 5, o5) :: (L + 6, o6) :: (L + 7, o7) :: (180, tabObj #[]) :: (187, tabObj #[]) :: (dx, dictOf es 4) :: (la, listOf #[.int (tx.cps.size : Nat) t0] 0) :: (pb, listOf #[] 0) :: (lw, listOf (strValues wv).toArray cw) :: imm))
  (hm : m (Str.ofString "words") = some (.ref lw))
  (hd1 : o1.data = .cell (some (.ref x))) (hd2 : o2.data = .cell none) (hd3 : o3.data = .cell none) (hd4 : o4.data = .cell none) (hd5 : o5.data = .cell none) (hd6 : o6.data = .cell none) (hd7 : o7.data = .cell (some (.ref md)))
  (hes : LxEs w.params ln sr pb es) (hW : LawS w L x dx sr la pb lw tx imm) (hmk : ∀ g', (∀ q ∈ imm, g'.get? q.1 = some q.2) → MkAt w g' md X) (hwv : wv.map (·.1) = wds X X.length) (hX : X.length = 5 ∨ X.length = 6) (hX24 : ∀ i, i < X.length → X.getD i 0 < 24)
  (G : Gr w mean mg mb (A.deeper (lawE fa sc L)) 20 g) (C1 : CodeHd g 184 180) (C3 : CodeHd g 189 187)
  (hQ : ∀ h' tk' m', Fr g L h' m' → GrownAt 180 h' → GrownAt 187 h' → Q (.ret (.bool true)) { s with heap := h', toks := tk' }) :
  wpAny (model VW w) (A.deeper (lawE fa sc L)) (execs bd (lawE fa sc L)) Q (fun _ _ => False) { s with heap := h, toks := tk } := by
  conv at hsc => rhs; whnf
  conv at hbd => rhs; whnf
  subst hsc
  subst hbd
  obtain ⟨hdl, dp, fr, gd, un⟩ := A
  obtain rfl : hdl = none := G.hh
  have X' := G.X
  have T' := G.T
  have hW0 := hW
  have wlF := hW.lit
  have hlx := hW.lex
  have w1 := hW.h1
  have w2 := hW.h2
  have w3 := hW.h3
  have w4 := hW.h4
  have w5 := hW.h5
  have w6 := hW.h6
  have w7 := hW.h7
  have w8 := hW.h8
  have wx := hW.hx
  have w9 := hW.h9
  replace F := Fr.as F [(Str.ofString "words", .ref lw)] (List.forall_mem_cons.mpr ⟨hm, List.forall_mem_nil _⟩)
  have i2 : ∀ q ∈ imm, q.1 ≠ L + 2 := fun q hq => by have := ltN (w9 q hq).1; k_ne
  k_with "stop" => (with_reducible show wpAny _ _ (exec (Stmt.For _ _ _ _ _) _) _ _ _)
  k_steps
  rename Fr _ _ _ _ => F1
  rename News _ _ _ _ => N1
  rename Obj => o2'
  obtain ⟨rw, hrw, hd2', N2⟩ : ∃ rw : Nat, (@LT.lt Nat _ (L + 7) rw ∧ @LT.lt Nat _ 187 rw ∧ @LT.lt Nat _ dx rw ∧ @LT.lt Nat _ la rw ∧ @LT.lt Nat _ pb rw ∧ @LT.lt Nat _ lw rw ∧ AllLt rw imm) ∧ o2'.data = .cell (some (.ref rw)) ∧ News g L _ ((L + 1, o1) :: (L + 2, o2') :: (L + 3, o3) :: (L + 4, o4) :: (L + 5, o5) :: (L + 6, o6) :: (L + 7, o7) :: (180, tabObj #[]) :: (187, tabObj #[]) :: (dx, dictOf es 4) :: (la, listOf #[.int (tx.cps.size : Nat) t0] 0) :: (pb, listOf #[] 0) :: (lw, listOf (strValues wv).toArray cw) :: (rw, listOf (strValues []).toArray 0) :: imm) := by
    have q := ‹L + 1 < _ ∧ _›
    refine ⟨_, ⟨q.2.2.2.2.2.2.1, q.2.2.2.2.2.2.2.2.1, q.2.2.2.2.2.2.2.2.2.1, q.2.2.2.2.2.2.2.2.2.2.1, q.2.2.2.2.2.2.2.2.2.2.2.1, q.2.2.2.2.2.2.2.2.2.2.2.2.1, q.2.2.2.2.2.2.2.2.2.2.2.2.2⟩, by assumption, newsSub N1 ?_⟩
    exact List.forall_mem_cons.mpr ⟨by k_mem, List.forall_mem_cons.mpr ⟨by k_mem, List.forall_mem_cons.mpr ⟨by k_mem, List.forall_mem_cons.mpr ⟨by k_mem, List.forall_mem_cons.mpr ⟨by k_mem, List.forall_mem_cons.mpr ⟨by k_mem, List.forall_mem_cons.mpr ⟨by k_mem, List.forall_mem_cons.mpr ⟨by k_mem, List.forall_mem_cons.mpr ⟨by k_mem, List.forall_mem_cons.mpr ⟨by k_mem, List.forall_mem_cons.mpr ⟨by k_mem, List.forall_mem_cons.mpr ⟨by k_mem, List.forall_mem_cons.mpr ⟨by k_mem, List.forall_mem_cons.mpr ⟨by k_mem, fun q hq => memDrop 14 hq⟩⟩⟩⟩⟩⟩⟩⟩⟩⟩⟩⟩⟩⟩
  obtain ⟨r1, r2, r3, r4, r5, r6, r7⟩ := hrw
  clear N1
  refine for_ ?_
  k_with_none
  k_with "stop" => (with_reducible show wpAny _ _ (pyIter _) _ _ _)
  k_steps
  have hwl : wv.length = X.length := by have := congrArg List.length hwv; simpa [wds] using this
  have hwz : (strValues wv).toArray.size = X.length := by simp [strValues, hwl]
  have hlw := isListN N2 (l := lw) (items := (strValues wv).toArray) (c := cw) (by k_mem)
  refine' forList (frz := [(lw, listOf (strValues wv).toArray cw)]) hlw (.inr ⟨_, .head _⟩) rfl rfl (fun i m₁ news₁ => Ex4 fun (rv : List (Str × Tok)) (cr : Nat) (ps : Array Value) (nc : List (Addr × Obj)) => C5 (m₁ (Str.ofString "words") = some (.ref lw)) (rv.map (·.1) = (insRow X i).map (fun k => wstr X (some k))) (TabOk ps nc lawQ) ((∀ q ∈ nc, @LT.lt Nat _ rw q.1)) (news₁ = ((L + 1, o1) :: (L + 2, o2') :: (L + 3, o3) :: (L + 4, o4) :: (L + 5, o5) :: (L + 6, o6) :: (L + 7, o7) :: (180, tabObj #[]) :: (187, tabObj ps) :: (dx, dictOf es 4) :: (la, listOf #[.int (tx.cps.size : Nat) t0] 0) :: (pb, listOf #[] 0) :: (lw, listOf (strValues wv).toArray cw) :: (rw, listOf (strValues rv).toArray cr) :: (nc ++ imm)))) ?hfz F1 N2 ?hJ ?turn ?done
  case hfz =>
    rintro i m₁ news₁ ⟨_, _, _, _, _, _, _, _, rfl⟩ q hq
    rw [List.mem_singleton.mp hq]
    exact memAt 12 rfl
  case hJ => exact ⟨[], 0, #[], [], rfl, rfl, TabOk.nil, (fun _ h => nomatch h), rfl⟩
  case turn =>
    rintro I oI i v m₁ news₁ h6 tk6 hi6 hv ⟨rv, cr, ps, nc, e1, hrv, htab, hnc, rfl⟩ hnI F6 N6
    clear F1 N2
    replace F6 := Fr.as F6 [(Str.ofString "words", .ref lw)] (List.forall_mem_cons.mpr ⟨e1, List.forall_mem_nil _⟩)
    clear e1
    have hi7 : i < X.length := by rw [hwz] at hi6; exact hi6
    obtain ⟨tv, rfl⟩ : ∃ t, v = .str (wstr X (some i)) t := by
      have e1 := congrArg (fun l => l[i]?) hwv
      simp only [wds, List.getElem?_map, List.getElem?_range hi7, Option.map_some] at e1
      obtain ⟨q, hq, eq⟩ := Option.map_eq_some_iff.mp e1
      refine ⟨q.2, ?_⟩
      simp only [strValues, List.getElem?_toArray, List.getElem?_map, hq, Option.map_some, Option.some.injEq] at hv
      rw [← hv, eq]; rfl
    have hnI1 := neN (hnI (187, tabObj ps) (by k_mem))
    have hnI2 := neN (hnI (rw, listOf (strValues rv).toArray cr) (by k_mem))
    dsimp only at hnI1 hnI2
    have n187 : ∀ q ∈ nc ++ imm, q.1 ≠ 187 := fun q hq => by
      rcases List.mem_append.mp hq with hq | hq
      · have := ltN (hnc q hq); k_ne
      · have := ltN (w9 q hq).1; k_ne
    have nrw : ∀ q ∈ nc ++ imm, q.1 ≠ rw := fun q hq => by
      rcases List.mem_append.mp hq with hq | hq
      · have := ltN (hnc q hq); k_ne
      · exact allLt_ne r7 q hq
    k_with_none
    k_with "stop" => (with_reducible show wpAny _ _ (eval (Expr.Lambda _ _ _ _) _) _ _ _)
    k_steps
    rename Fr _ _ _ _ => F8
    rename News _ _ _ _ => N8
    refine kla_eval rfl ?_
    refine' lamOn F8 N8 T' C3 rfl ?U htab rfl ?_
    case U => k_updF
    intro f c' ctv h9 tk9 ps9 nc9 oc9 vs9 tt9 F9 N9 htab9 hcm hd9 hq9 hnc9 hf9 hncf9
    clear F8 N8
    k_with_none
    k_with "stop" => (with_reducible show wpAny _ _ (call (Value.ref _) _ _) _ _ _)
    k_steps
    k_with_none
    obtain ⟨ko, hko, N9⟩ := splitHead N9
    have hf9' := hf9 (rw, listOf (strValues rv).toArray cr) (memAt 14 rfl)
    have hf9n := ltN hf9'
    have hnc9r : ∀ q ∈ nc9, @LT.lt Nat _ rw q.1 := fun q hq => hnc9 q hq (rw, listOf (strValues rv).toArray cr) (memAt 14 rfl)
    refine' callOn F9 N9 [(rw, listOf (strValues rv).toArray cr)] ((f, ko) :: (nc9 ++ ((I, oI) :: (L + 1, o1) :: (L + 2, o2') :: (L + 3, o3) :: (L + 4, o4) :: (L + 5, o5) :: (L + 6, o6) :: (L + 7, o7) :: (180, tabObj #[]) :: (187, tabObj ps9) :: (dx, dictOf es 4) :: (la, listOf #[.int (tx.cps.size : Nat) t0] 0) :: (pb, listOf #[] 0) :: (lw, listOf (strValues wv).toArray cw) :: (nc ++ imm)))) ?hu ?hr ?dj ?_
    case hu => exact List.forall_mem_cons.mpr ⟨.tail _ (List.mem_append_right _ (memAt 14 rfl)), List.forall_mem_nil _⟩
    case hr =>
      have hh : ∀ q ∈ ((I, oI) :: (L + 1, o1) :: (L + 2, o2') :: (L + 3, o3) :: (L + 4, o4) :: (L + 5, o5) :: (L + 6, o6) :: (L + 7, o7) :: (180, tabObj #[]) :: (187, tabObj ps9) :: (dx, dictOf es 4) :: (la, listOf #[.int (tx.cps.size : Nat) t0] 0) :: (pb, listOf #[] 0) :: (lw, listOf (strValues wv).toArray cw) :: (nc ++ imm)), q ∈ ((I, oI) :: (L + 1, o1) :: (L + 2, o2') :: (L + 3, o3) :: (L + 4, o4) :: (L + 5, o5) :: (L + 6, o6) :: (L + 7, o7) :: (180, tabObj #[]) :: (187, tabObj ps9) :: (dx, dictOf es 4) :: (la, listOf #[.int (tx.cps.size : Nat) t0] 0) :: (pb, listOf #[] 0) :: (lw, listOf (strValues wv).toArray cw) :: (rw, listOf (strValues rv).toArray cr) :: (nc ++ imm)) := List.forall_mem_cons.mpr ⟨by k_mem, List.forall_mem_cons.mpr ⟨by k_mem, List.forall_mem_cons.mpr ⟨by k_mem, List.forall_mem_cons.mpr ⟨by k_mem, List.forall_mem_cons.mpr ⟨by k_mem, List.forall_mem_cons.mpr ⟨by k_mem, List.forall_mem_cons.mpr ⟨by k_mem, List.forall_mem_cons.mpr ⟨by k_mem, List.forall_mem_cons.mpr ⟨by k_mem, List.forall_mem_cons.mpr ⟨by k_mem, List.forall_mem_cons.mpr ⟨by k_mem, List.forall_mem_cons.mpr ⟨by k_mem, List.forall_mem_cons.mpr ⟨by k_mem, List.forall_mem_cons.mpr ⟨by k_mem, fun q hq => memDrop 15 hq⟩⟩⟩⟩⟩⟩⟩⟩⟩⟩⟩⟩⟩⟩
      refine List.forall_mem_cons.mpr ⟨.head _, fun q hq => .tail _ ?_⟩
      rcases List.mem_append.mp hq with hq | hq
      · exact List.mem_append_left _ hq
      · exact List.mem_append_right _ (hh q hq)
    case dj =>
      have hh : ∀ q ∈ ((I, oI) :: (L + 1, o1) :: (L + 2, o2') :: (L + 3, o3) :: (L + 4, o4) :: (L + 5, o5) :: (L + 6, o6) :: (L + 7, o7) :: (180, tabObj #[]) :: (187, tabObj ps9) :: (dx, dictOf es 4) :: (la, listOf #[.int (tx.cps.size : Nat) t0] 0) :: (pb, listOf #[] 0) :: (lw, listOf (strValues wv).toArray cw) :: (nc ++ imm)), q.1 ≠ rw := List.forall_mem_cons.mpr ⟨by k_ne, List.forall_mem_cons.mpr ⟨by k_ne, List.forall_mem_cons.mpr ⟨by k_ne, List.forall_mem_cons.mpr ⟨by k_ne, List.forall_mem_cons.mpr ⟨by k_ne, List.forall_mem_cons.mpr ⟨by k_ne, List.forall_mem_cons.mpr ⟨by k_ne, List.forall_mem_cons.mpr ⟨by k_ne, List.forall_mem_cons.mpr ⟨by k_ne, List.forall_mem_cons.mpr ⟨by k_ne, List.forall_mem_cons.mpr ⟨by k_ne, List.forall_mem_cons.mpr ⟨by k_ne, List.forall_mem_cons.mpr ⟨by k_ne, List.forall_mem_cons.mpr ⟨by k_ne, nrw⟩⟩⟩⟩⟩⟩⟩⟩⟩⟩⟩⟩⟩⟩
      refine m_dj1 ?_
      refine List.forall_mem_cons.mpr ⟨by k_ne, fun q hq => ?_⟩
      rcases List.mem_append.mp hq with hq | hq
      · have := ltN (hnc9r q hq); k_ne
      · exact hh q hq
    intro g' st' sz' O' hg' hk'
    have hg2 : ∀ q ∈ nc9 ++ ((I, oI) :: (L + 1, o1) :: (L + 2, o2') :: (L + 3, o3) :: (L + 4, o4) :: (L + 5, o5) :: (L + 6, o6) :: (L + 7, o7) :: (180, tabObj #[]) :: (187, tabObj ps9) :: (dx, dictOf es 4) :: (la, listOf #[.int (tx.cps.size : Nat) t0] 0) :: (pb, listOf #[] 0) :: (lw, listOf (strValues wv).toArray cw) :: (nc ++ imm)), g'.get? q.1 = some q.2 := fun q hq => hg' q (.tail _ hq)
    have hmk' := hmk g' (fun q hq => hg2 q (List.mem_append_right _ (memDrop 14 (List.mem_append_right _ hq))))
    have hce : g'.IsCell (L + 7) (some (.ref md)) := ⟨o7, hg2 (L + 7, o7) (List.mem_append_right _ (memAt 7 rfl)), hd7⟩
    have hf' := hg' (f, ko) (.head _)
    rw [hko] at hf'
    have hc'' : g'.get? c' = some oc9 := by
      rcases List.mem_append.mp hcm with hm2 | hm2
      · exact hg2 _ (List.mem_append_left _ hm2)
      · exact hg2 _ (List.mem_append_right _ (memDrop 14 (List.mem_append_left _ hm2)))
    obtain ⟨kvs, hkv, hkvs⟩ := hmk'
    have hKone : ∀ (A2 : Around) (s2 : Shared) (R2 : Result → Shared → Prop) (k2 : Nat) (tv2 : Tok), k2 < X.length → g'.StaysIn s2.heap → A2.depth + 3 < recursionLimit → A2.units + 30 < cLine → A2.handled = none →
        (∀ v' h' tk', s2.heap.StaysIn h' → (∃ a t u, v' = .ref a ∧ h'.get? a = some (tup2 (tOf X k2 : Nat) (nOf X k2 : Nat) t u)) → R2 (.ok (.ret v')) { s2 with heap := h', toks := tk' }) →
        codeAny (model VW w) A2 (.call (.ref f) ⟨[.str (wstr X (some k2)) tv2], []⟩) R2 s2 := by
      intro A2 s2 R2 k2 tv2 hk2X hst hdep hun hh2 hret2
      obtain ⟨hdl2, dp2, fr2, gd2, un2⟩ := A2
      obtain rfl : hdl2 = none := hh2
      obtain ⟨aw2, hva2, dw2, ew2, hw12, hw22, y1, y2, y3, y4, y5, rv2, nv2, tn2, tt2, rfl⟩ := hkvs k2 hk2X
      have st2 : g.StaysIn s2.heap := fun b o e => hst b o (st' b o e)
      refine enterL (g := s2.heap) (news := []) (k := 2) (binds := [(Str.ofString "one", .str (wstr X (some k2)) tv2)]) ⟨fun _ _ e => e, Nat.le_refl _, fun _ h => nomatch h⟩ ⟨X'.keeps st2, T'.keeps st2, rfl, by omega, by omega⟩ (hst _ _ hf') ⟨c', oc9, vs9, tt9, rfl, hst _ _ hc'', hd9, hq9⟩ rfl (locs rfl) ?_ (by decide)
      intro L2 h2 F2 N2 l2 G2 st3 eL
      have hce2 : s2.heap.IsCell (L + 7) (some (.ref md)) := hce.keeps hst
      have hw13 := hst _ _ hw12
      have hw23 := hst _ _ hw22
      have X2 := G2.X
      have T2 := G2.T
      k_with "stop" => (with_reducible show wpAny _ _ (subscriptTail _ _ _ _) _ _ _)
      k_steps
      refine itemZ' (x := wstr X (some k2)) (l := wl k2 (X.getD k2 0)) (i := -1) (c := 97 + k2) rfl (by have := wl_len k2 (X.getD k2 0); omega) (by have := wl_pos k2 (X.getD k2 0); omega) (by omega) (wl_last _ _) ?_
      intro t24 tk24
      rename Fr _ _ _ _ => F23
      refine markGet F23 (hkv.keep hst) hva2 ?_
      intro tk25
      k_steps
      refine itemZ' (x := wstr X (some k2)) (l := wl k2 (X.getD k2 0)) (i := -1) (c := 97 + k2) rfl (by have := wl_len k2 (X.getD k2 0); omega) (by have := wl_pos k2 (X.getD k2 0); omega) (by omega) (wl_last _ _) ?_
      intro t34 tk34
      rename Fr _ _ _ _ => F33
      refine markGet F33 (hkv.keep hst) hva2 ?_
      intro tk35
      k_steps
      rename Fr _ _ _ _ => F43
      rename News _ _ _ _ => N43
      exact hret2 _ _ _ F43.keep ⟨_, _, _, rfl, (N43 _ (.head _)).1⟩
    have hrvl : rv.length = i := by have := congrArg List.length hrv; simpa [insRow_len] using this
    obtain ⟨r, hr⟩ : ∃ r, r = plc false (kv X) (insRow X i) (kv X i) := ⟨_, rfl⟩
    have hrle : r ≤ (insRow X i).length := by rw [hr]; exact plc_le
    rw [insRow_len] at hrle
    have hpw := insRow_pw X i
    refine insort (items := strValues rv) (x := .str (wstr X (some i)) tv) (Kv := fun j v h => ∃ a t u, v = .ref a ∧ h.get? a = some (tup2 (tOf X ((insRow X i).getD j 0) : Nat) (nOf X ((insRow X i).getD j 0) : Nat) t u)) (Kx := fun v h => ∃ a t u, v = .ref a ∧ h.get? a = some (tup2 (tOf X i : Nat) (nOf X i : Nat) t u)) (lt := fun j => decide (kv X i < kv X ((insRow X i).getD j 0))) (r := r) O' ((G.keeps st').le (by omega)) (by simp [strValues]; omega) ⟨_, _, _, _, hf'⟩ ?_ ?_ ?_ ?_ (by simp [strValues]; omega) ?_ ?_
    · intro A2 s2 R2 j v hv hst hsz2 hdep hun hh2 hret2
      have hj : j < i := by
        have := (Array.getElem?_eq_some_iff.mp hv).1
        rw [List.size_toArray, strValues, List.length_map] at this
        omega
      obtain ⟨k2, hk2⟩ : ∃ k2, (insRow X i)[j]? = some k2 := ⟨_, List.getElem?_eq_getElem (by rw [insRow_len]; exact hj)⟩
      have hk2X := insRow_lt X i k2 (List.mem_of_getElem? hk2)
      have hgd : (insRow X i).getD j 0 = k2 := by rw [List.getD_eq_getElem?_getD, hk2]; rfl
      obtain ⟨tv2, rfl⟩ : ∃ t, v = .str (wstr X (some k2)) t := by
        have q1 := congrArg (fun l => l[j]?) hrv
        simp only [List.getElem?_map, hk2, Option.map_some] at q1
        obtain ⟨p2, hp2, hp3⟩ := Option.map_eq_some_iff.mp q1
        rw [List.getElem?_toArray, strValues, List.getElem?_map, hp2] at hv
        exact ⟨p2.2, by rw [← hp3]; exact (Option.some.inj hv).symm⟩
      refine hKone A2 s2 R2 k2 tv2 (by omega) hst hdep hun hh2 (fun v' h' tk' hk hv' => hret2 v' h' tk' hk ?_)
      dsimp only
      rw [hgd]; exact hv'
    · intro A2 s2 R2 j v hv hst hsz2 hdep hun hh2 hret2
      have hj0 : j = 0 := by
        have := (Array.getElem?_eq_some_iff.mp hv).1
        simp at this; omega
      subst hj0
      have hv0 : v = .str (wstr X (some i)) tv := (Option.some.inj hv).symm
      subst hv0
      exact hKone A2 s2 R2 i tv hi7 hst hdep hun hh2 hret2
    · rintro v h h' ⟨a, t, u, e1, e2⟩ st
      exact ⟨a, t, u, e1, st _ _ e2⟩
    · rintro xv g2 ⟨a1, t1, u1, rfl, ha1⟩ A3 s3 Q3 j v hj hst3 ⟨a2, t2, u2, rfl, ha2⟩ hun3 hh3 h3
      refine tupLt (hst3 _ _ ha1) ha2 (by omega) ?_
      have e3 : decide (((tOf X i : Nat) : Int) < ((tOf X ((insRow X i).getD j 0) : Nat) : Int) ∨ ((tOf X i : Nat) : Int) = ((tOf X ((insRow X i).getD j 0) : Nat) : Int) ∧ ((nOf X i : Nat) : Int) < ((nOf X ((insRow X i).getD j 0) : Nat) : Int)) = decide (kv X i < kv X ((insRow X i).getD j 0)) := by
        have n1 := nOf_le X i
        have n2 := nOf_le X ((insRow X i).getD j 0)
        refine decide_eq_decide.mpr ?_
        unfold kv
        omega
      rw [e3]
      exact h3 s3.heap s3.toks (fun _ _ e => e)
    · intro j hj
      rw [strValues, List.length_map] at hj
      rw [decide_eq_true_iff, hr]
      exact plc_gt hpw (by rw [insRow_len]; omega)
    · intro h10 tk10 c10 O10
      refine ⟨_, h10, tk10, _, rfl, rfl, O10, fun F10 N10 => ?_⟩
      clear F9 N9 hg' hg2 hk' O' O10 hKone hf' hc'' hce hkvs
      dsimp only [List.cons_append, List.nil_append] at N10
      have erv : (strValues rv).take r ++ Value.str (wstr X (some i)) tv :: (strValues rv).drop r = strValues (rv.take r ++ (wstr X (some i), tv) :: rv.drop r) := by unfold strValues; simp
      rw [erv] at N10
      k_with_none
      k_steps
      rename Fr _ _ _ _ => F11
      rename News _ _ _ _ => N11
      refine ⟨_, _, _, ((L + 1, o1) :: (L + 2, o2') :: (L + 3, o3) :: (L + 4, o4) :: (L + 5, o5) :: (L + 6, o6) :: (L + 7, o7) :: (180, tabObj #[]) :: (187, tabObj ps9) :: (dx, dictOf es 4) :: (la, listOf #[.int (tx.cps.size : Nat) t0] 0) :: (pb, listOf #[] 0) :: (lw, listOf (strValues wv).toArray cw) :: (rw, listOf (strValues (rv.take r ++ (wstr X (some i), tv) :: rv.drop r)).toArray c10) :: ((nc9 ++ nc) ++ imm)), rfl, F11, newsSub N11 ?_, ?_, rv.take r ++ (wstr X (some i), tv) :: rv.drop r, c10, ps9, nc9 ++ nc, rfl, ?_, htab9, ?_, rfl⟩
      · refine List.forall_mem_cons.mpr ⟨.tail _ (.tail _ (List.mem_append_right _ (.head _))), List.forall_mem_cons.mpr ⟨.tail _ (.tail _ (List.mem_append_right _ (.tail _ (.head _)))), List.forall_mem_cons.mpr ⟨.tail _ (.tail _ (List.mem_append_right _ (memAt 2 rfl))), List.forall_mem_cons.mpr ⟨.tail _ (.tail _ (List.mem_append_right _ (memAt 3 rfl))), List.forall_mem_cons.mpr ⟨.tail _ (.tail _ (List.mem_append_right _ (memAt 4 rfl))), List.forall_mem_cons.mpr ⟨.tail _ (.tail _ (List.mem_append_right _ (memAt 5 rfl))), List.forall_mem_cons.mpr ⟨.tail _ (.tail _ (List.mem_append_right _ (memAt 6 rfl))), List.forall_mem_cons.mpr ⟨.tail _ (.tail _ (List.mem_append_right _ (memAt 7 rfl))), List.forall_mem_cons.mpr ⟨.tail _ (.tail _ (List.mem_append_right _ (memAt 8 rfl))), List.forall_mem_cons.mpr ⟨.tail _ (.tail _ (List.mem_append_right _ (memAt 9 rfl))), List.forall_mem_cons.mpr ⟨.tail _ (.tail _ (List.mem_append_right _ (memAt 10 rfl))), List.forall_mem_cons.mpr ⟨.tail _ (.tail _ (List.mem_append_right _ (memAt 11 rfl))), List.forall_mem_cons.mpr ⟨.tail _ (.tail _ (List.mem_append_right _ (memAt 12 rfl))), List.forall_mem_cons.mpr ⟨.tail _ (.tail _ (List.mem_append_right _ (memAt 13 rfl))), List.forall_mem_cons.mpr ⟨.head _, fun q hq => .tail _ (.tail _ ?_)⟩⟩⟩⟩⟩⟩⟩⟩⟩⟩⟩⟩⟩⟩⟩
        rcases List.mem_append.mp hq with hq | hq
        · rcases List.mem_append.mp hq with hq | hq
          · exact List.mem_append_left _ hq
          · exact List.mem_append_right _ (memDrop 14 (List.mem_append_left _ hq))
        · exact List.mem_append_right _ (memDrop 14 (List.mem_append_right _ hq))
      · refine List.forall_mem_cons.mpr ⟨hnI _ (.head _), List.forall_mem_cons.mpr ⟨hnI _ (.tail _ (.head _)), List.forall_mem_cons.mpr ⟨hnI _ (memAt 2 rfl), List.forall_mem_cons.mpr ⟨hnI _ (memAt 3 rfl), List.forall_mem_cons.mpr ⟨hnI _ (memAt 4 rfl), List.forall_mem_cons.mpr ⟨hnI _ (memAt 5 rfl), List.forall_mem_cons.mpr ⟨hnI _ (memAt 6 rfl), List.forall_mem_cons.mpr ⟨hnI _ (memAt 7 rfl), List.forall_mem_cons.mpr ⟨hnI (187, tabObj ps) (memAt 8 rfl), List.forall_mem_cons.mpr ⟨hnI _ (memAt 9 rfl), List.forall_mem_cons.mpr ⟨hnI _ (memAt 10 rfl), List.forall_mem_cons.mpr ⟨hnI _ (memAt 11 rfl), List.forall_mem_cons.mpr ⟨hnI _ (memAt 12 rfl), List.forall_mem_cons.mpr ⟨hnI (rw, listOf (strValues rv).toArray cr) (memAt 13 rfl), fun q hq => ?_⟩⟩⟩⟩⟩⟩⟩⟩⟩⟩⟩⟩⟩⟩
        rcases List.mem_append.mp hq with hq | hq
        · rcases List.mem_append.mp hq with hq | hq
          · exact Ne.symm (Nat.ne_of_lt (hnc9 q hq (I, oI) (.head _)))
          · exact hnI q (memDrop 14 (List.mem_append_left _ hq))
        · exact hnI q (memDrop 14 (List.mem_append_right _ hq))
      · unfold insRow
        rw [← hr, List.map_append, List.map_cons, List.map_append, List.map_cons, List.map_take, List.map_drop, List.map_take, List.map_drop, hrv]
      · intro q hq
        rcases List.mem_append.mp hq with hq | hq
        · exact hnc9r q hq
        · exact hnc q hq
  case done =>
    rintro m₁ news₁ h6 tk6 ⟨rv, cr, ps, nc, e1, hrv, htab, hnc, rfl⟩ F6 N6
    rw [hwz] at hrv
    dsimp only
    refine law6 (imm := nc ++ imm) _ rfl _ rfl F6 N6 e1 hd1 hd2' hd3 hd4 hd5 hd6 hd7 hes ⟨fun g' hg => hlx g' (fun q hq => hg q (List.mem_append_right _ hq)), w1, w2, w3, w4, w5, w6, w7, w8, List.mem_append_right _ wx, fun q hq => ?_⟩ (fun g' hg => hmk g' (fun q hq => hg q (List.mem_append_right _ hq))) hwv hrv (htab.mono (fun q hq => List.mem_append_left _ hq)) ⟨r6, r3, r4, r5⟩ (fun q hq => ?_) hX hX24 G C1 C3 hQ
    · rcases List.mem_append.mp hq with hq | hq
      · have := ltN (hnc q hq)
        exact ⟨by omega, neN (by omega), neN (by omega), neN (by omega)⟩
      · exact w9 q hq
    · rcases List.mem_append.mp hq with hq | hq
      · have := ltN (hnc q hq); exact neN (by omega)
      · exact allLt_ne r7 q hq
end
section
theorem rsL3 : True := by w_top off; k_with_none; trivial
open PySem PySem.W PyProof.Rows PySem.Calls PyProof.Rows.LSm
variable {fa : Addr}
local macro_rules | `(tactic| k_inst) => `(tactic| (refine' instNN ?N ?a ?b; (case N => assumption); (case a => k_mem); (case b => k_mem)))
local macro_rules | `(tactic| k_mem) => `(tactic| assumption)
theorem law3 {w : World} {mean : ExcName → Option Value} {mg mb : Str → Option Value} {A : Around} {g : Heap} {s : Shared} {Q : Flow → Shared → Prop} {L : Nat} {h : Heap} {tk : Nat} {m : Str → Option Value}
  {o1 o2 o3 o4 o5 o6 o7 : Obj} {x dx sr la pb lw ln : Nat} {tx : Str} {imm : List (Addr × Obj)} {es : List DictEntry} {t0 : Tok} {wv : List (Str × Tok)} {cw : Nat} {X : List Nat} (sc : Scope) (hsc : sc = lawD.2) (bd : List Stmt) (hbd : bd = lawD.1.drop 3)
  (F : Fr g L h m) (N : News g L h ((L + 1, o1) :: (L + 2, o2) :: (L + 3, o3) :: (L + 4, o4) :: (L + 5, o5) :: (L + 6, o6) :: (L + 7, o7) :: (180, tabObj #[]) :: (187, tabObj #[]) :: (dx, dictOf es 4) :: (la, listOf #[.int (tx.cps.size : Nat) t0] 0) :: (pb, listOf #[] 0) :: (lw, listOf (strValues wv).toArray cw) :: imm))
  (hm : m (Str.ofString "words") = some (.ref lw))
  (hd1 : o1.data = .cell (some (.ref x))) (hd2 : o2.data = .cell none) (hd3 : o3.data = .cell none) (hd4 : o4.data = .cell none) (hd5 : o5.data = .cell none) (hd6 : o6.data = .cell none) (hd7 : o7.data = .cell none)
  (hes : LxEs w.params ln sr pb es) (hW : LawS w L x dx sr la pb lw tx imm) (hwv : wv.map (·.1) = wds X X.length) (hX : X.length = 5 ∨ X.length = 6) (hX24 : ∀ i, i < X.length → X.getD i 0 < 24)
  (G : Gr w mean mg mb (A.deeper (lawE fa sc L)) 20 g) (C1 : CodeHd g 184 180) (C3 : CodeHd g 189 187)
  (hQ : ∀ h' tk' m', Fr g L h' m' → GrownAt 180 h' → GrownAt 187 h' → Q (.ret (.bool true)) { s with heap := h', toks := tk' }) :
  wpAny (model VW w) (A.deeper (lawE fa sc L)) (execs bd (lawE fa sc L)) Q (fun _ _ => False) { s with heap := h, toks := tk } := by
  conv at hsc => rhs; whnf
  conv at hbd => rhs; whnf
  subst hsc
  subst hbd
  obtain ⟨hdl, dp, fr, gd, un⟩ := A
  obtain rfl : hdl = none := G.hh
  have X' := G.X
  have T' := G.T
  have hW0 := hW
  have wlF := hW.lit
  have hlx := hW.lex
  have w1 := hW.h1
  have w2 := hW.h2
  have w3 := hW.h3
  have w4 := hW.h4
  have w5 := hW.h5
  have w6 := hW.h6
  have w7 := hW.h7
  have w8 := hW.h8
  have wx := hW.hx
  have w9 := hW.h9
  replace F := Fr.as F [(Str.ofString "words", .ref lw)] (List.forall_mem_cons.mpr ⟨hm, List.forall_mem_nil _⟩)
  k_with "stop" => (with_reducible show wpAny _ _ (eval (Expr.DictComp _ _ _ _ _) _) _ _ _)
  k_steps
  refine dictComp_ (cl := []) rfl rfl (by decide) ?_
  k_with_none
  k_with "stop" => (with_reducible show wpAny _ _ (pyIter _) _ _ _)
  k_steps
  have hwl : wv.length = X.length := by have := congrArg List.length hwv; simpa [wds] using this
  have hlw := isListN N (l := lw) (items := (strValues wv).toArray) (c := cw) (by k_mem)
  have hwz : (strValues wv).toArray.size = X.length := by simp [strValues, hwl]
  refine' compListD (frz := [(lw, listOf (strValues wv).toArray cw)]) (m := _) hlw (.inr ⟨_, .head _⟩) rfl (by rw [hwz, sizeLine_eq]; omega) (fun C i kvs m₂ news₂ => Ex1 fun (ob : List (Addr × Obj)) => Mine.C3 (MkL w X i kvs ob) ((∀ q ∈ ob, @LT.lt Nat _ lw q.1 ∧ q.1 ≠ dx ∧ q.1 ≠ la ∧ q.1 ≠ pb)) (news₂ = ((L + 1, o1) :: (L + 2, o2) :: (L + 3, o3) :: (L + 4, o4) :: (L + 5, o5) :: (L + 6, o6) :: (L + 7, o7) :: (180, tabObj #[]) :: (187, tabObj #[]) :: (dx, dictOf es 4) :: (la, listOf #[.int (tx.cps.size : Nat) t0] 0) :: (pb, listOf #[] 0) :: (lw, listOf (strValues wv).toArray cw) :: (ob ++ imm)))) ?hfz F N ?hJ ?turn ?done
  case hfz =>
    rintro C i ys m₁ news₁ ⟨_, _, _, rfl⟩ q hq
    rw [List.mem_singleton.mp hq]
    exact memAt 12 rfl
  case hJ => exact fun C _ => ⟨[], ⟨rfl, fun k hk => by omega⟩, (fun _ h => nomatch h), rfl⟩
  case turn =>
    rintro I C D oL oI i v kvs oD mc₁ nw₁ h10 tk10 dc ld iD hi hv hoD ⟨ob, hob, hobn, rfl⟩ hap F10 N10
    unfold CompTurnD
    have iD' := ltN iD
    have ld' := ltN ld
    have dc' : @Eq Nat (D + 1) C := dc
    have hi' : i < X.length := by rw [hwz] at hi; exact hi
    obtain ⟨tv, rfl⟩ : ∃ t, v = .str (st (wl i (X.getD i 0))) t := by
      have e1 := congrArg (fun l => l[i]?) hwv
      simp only [wds, List.getElem?_map, List.getElem?_range hi', Option.map_some] at e1
      obtain ⟨q, hq, eq⟩ := Option.map_eq_some_iff.mp e1
      refine ⟨q.2, ?_⟩
      simp only [strValues, List.getElem?_toArray, List.getElem?_map, hq, Option.map_some, Option.some.injEq] at hv
      rw [← hv, eq]
    k_with_none
    k_with "stop" => (first | (with_reducible show wpAny _ _ (subscriptTail _ _ _ _) _ _ _) | (with_reducible show wpAny _ _ (call (Value.ref _) _ _) _ _ _))
    k_steps
    refine itemZ' (l := wl i (X.getD i 0)) (i := -1) (c := 97 + i) rfl (by have := wl_len i (X.getD i 0); omega) (by have := wl_pos i (X.getD i 0); omega) (by omega) (wl_last _ _) ?_
    intro t4 tk4
    k_steps
    k_with_none
    rename Fr _ _ _ _ => F11
    rename News _ _ _ _ => N11
    refine' call_cls F11 X' N11 ?m1 ?m2 ?m3 ?_
    case m1 => k_is
    case m2 => k_is
    case m3 => k_is
    intro a d h12 F12 N12 ldx lxx
    have ldx' := allLt_of ldx
    simp only [AllLt] at ldx'
    have lxx' := ltN lxx
    refine codeOn F12 N12 [(a, instObj 152 d), (d, dictOf [] 0)] _ (List.forall_mem_cons.mpr ⟨.head _, List.forall_mem_cons.mpr ⟨.tail _ (.head _), List.forall_mem_nil _⟩⟩) (fun q hq => memDrop 2 hq) ?dj (fun g' st' sz' O' hg' hk' => ?_)
    case dj =>
      exact m_dj (fun p hp => Nat.ne_of_lt (Nat.lt_trans (ldx p hp) lxx)) (fun p hp => Nat.ne_of_lt (ldx p hp))
    refine wsInit (t := X.getD i 0 % 3) (b := X.getD i 0 / 3 % 4) (c := 97 + i) (by omega) (by omega) (by omega) (by omega) lxx O' ((G.making.keeps st').le (by omega)) ?_
    intro h14 tk14 es14 hes14 O14
    refine ⟨_, h14, tk14, _, rfl, rfl, O14, fun F14 N14 => ?_⟩
    refine ⟨rfl, ?_⟩
    dsimp only [List.cons_append, List.nil_append] at N14
    clear F12 N12 O14 O' hg' hk' st' sz' F11 N11
    refine ⟨_, t4, rfl, _, _, _, _, rfl, F14, newsSub N14 (List.forall_mem_cons.mpr ⟨by k_mem, List.forall_mem_cons.mpr ⟨by k_mem, List.forall_mem_cons.mpr ⟨by k_mem, List.forall_mem_cons.mpr ⟨by k_mem, List.forall_mem_cons.mpr ⟨by k_mem, List.forall_mem_cons.mpr ⟨by k_mem, List.forall_mem_cons.mpr ⟨by k_mem, List.forall_mem_cons.mpr ⟨by k_mem, List.forall_mem_cons.mpr ⟨by k_mem, List.forall_mem_cons.mpr ⟨by k_mem, List.forall_mem_cons.mpr ⟨by k_mem, List.forall_mem_cons.mpr ⟨by k_mem, List.forall_mem_cons.mpr ⟨by k_mem, List.forall_mem_cons.mpr ⟨by k_mem, List.forall_mem_cons.mpr ⟨by k_mem, List.forall_mem_cons.mpr ⟨by k_mem, List.forall_mem_cons.mpr ⟨.head _, List.forall_mem_cons.mpr ⟨.tail _ (.head _), fun q hq => memDrop 18 hq⟩⟩⟩⟩⟩⟩⟩⟩⟩⟩⟩⟩⟩⟩⟩⟩⟩⟩), ?_, (a, instObj 152 d) :: (d, dictOf es14 5) :: ob, hob.snoc hes14, ?_, rfl⟩
    · refine List.forall_mem_cons.mpr ⟨hap _ (by k_mem), List.forall_mem_cons.mpr ⟨hap _ (by k_mem), List.forall_mem_cons.mpr ⟨hap _ (by k_mem), List.forall_mem_cons.mpr ⟨hap _ (by k_mem), List.forall_mem_cons.mpr ⟨hap _ (by k_mem), List.forall_mem_cons.mpr ⟨hap _ (by k_mem), List.forall_mem_cons.mpr ⟨hap _ (by k_mem), List.forall_mem_cons.mpr ⟨hap _ (by k_mem), List.forall_mem_cons.mpr ⟨hap _ (by k_mem), List.forall_mem_cons.mpr ⟨hap _ (by k_mem), List.forall_mem_cons.mpr ⟨hap _ (by k_mem), List.forall_mem_cons.mpr ⟨hap _ (by k_mem), List.forall_mem_cons.mpr ⟨hap _ (by k_mem), ?_⟩⟩⟩⟩⟩⟩⟩⟩⟩⟩⟩⟩⟩
      intro q hq
      rcases List.mem_cons.mp hq with rfl | hq
      · exact ⟨neN (by dsimp only; omega), neN (by dsimp only; omega), neN (by dsimp only; omega)⟩
      rcases List.mem_cons.mp hq with rfl | hq
      · exact ⟨neN (by dsimp only; omega), neN (by dsimp only; omega), neN (by dsimp only; omega)⟩
      exact hap q (memDrop 13 hq)
    · intro q hq
      rcases List.mem_cons.mp hq with rfl | hq
      · exact ⟨by omega, neN (by dsimp only; omega), neN (by dsimp only; omega), neN (by dsimp only; omega)⟩
      rcases List.mem_cons.mp hq with rfl | hq
      · exact ⟨by omega, neN (by dsimp only; omega), neN (by dsimp only; omega), neN (by dsimp only; omega)⟩
      exact hobn q hq
  case done =>
    rintro C D kvs oD mc₁ nw₁ h10 tk10 dc ld hlD hoD ⟨ob, hob, hobn, rfl⟩ hap F10 N10
    rw [hwz] at hob
    have ld' := ltN ld
    have hlwD := ltN (hlD (lw, listOf (strValues wv).toArray cw) (by k_mem))
    have hdxD := ltN (hlD (dx, dictOf es 4) (by k_mem))
    have hlaD := ltN (hlD (la, listOf #[.int (tx.cps.size : Nat) t0] 0) (by k_mem))
    have hpbD := ltN (hlD (pb, listOf #[] 0) (by k_mem))
    have i7 : ∀ q ∈ ob ++ imm, q.1 ≠ L + 7 := fun q hq => by
      rcases List.mem_append.mp hq with hq | hq
      · have := ltN (hobn q hq).1; k_ne
      · have := ltN (w9 q hq).1; k_ne
    replace N10 := newsSub (news' := (L + 1, o1) :: (L + 2, o2) :: (L + 3, o3) :: (L + 4, o4) :: (L + 5, o5) :: (L + 6, o6) :: (L + 7, o7) :: (180, tabObj #[]) :: (187, tabObj #[]) :: (dx, dictOf es 4) :: (la, listOf #[.int (tx.cps.size : Nat) t0] 0) :: (pb, listOf #[] 0) :: (lw, listOf (strValues wv).toArray cw) :: (D, oD) :: (ob ++ imm)) N10 (List.forall_mem_cons.mpr ⟨by k_mem, List.forall_mem_cons.mpr ⟨by k_mem, List.forall_mem_cons.mpr ⟨by k_mem, List.forall_mem_cons.mpr ⟨by k_mem, List.forall_mem_cons.mpr ⟨by k_mem, List.forall_mem_cons.mpr ⟨by k_mem, List.forall_mem_cons.mpr ⟨by k_mem, List.forall_mem_cons.mpr ⟨by k_mem, List.forall_mem_cons.mpr ⟨by k_mem, List.forall_mem_cons.mpr ⟨by k_mem, List.forall_mem_cons.mpr ⟨by k_mem, List.forall_mem_cons.mpr ⟨by k_mem, List.forall_mem_cons.mpr ⟨by k_mem, List.forall_mem_cons.mpr ⟨by k_mem, fun q hq => memDrop 14 hq⟩⟩⟩⟩⟩⟩⟩⟩⟩⟩⟩⟩⟩⟩)
    k_with_none
    k_with "stop" => (with_reducible show wpAny _ _ (execs (Stmt.Assign _ _ _ :: _) _) _ _ _)
    k_steps
    rename Fr _ _ _ _ => F13
    rename News _ _ _ _ => N13
    refine law4 (imm := (D, oD) :: (ob ++ imm)) _ rfl _ rfl F13 N13 (by first | rfl | assumption) hd1 hd2 hd3 hd4 hd5 hd6 (by assumption) hes ⟨fun g' hg => hlx g' (fun q hq => hg q (.tail _ (List.mem_append_right _ hq))), w1, w2, w3, w4, w5, w6, w7, w8, .tail _ (List.mem_append_right _ wx), fun q hq => ?_⟩ (fun g' hg => MkL.at hob hoD (hg _ (.head _)) (fun q hq => hg q (.tail _ (List.mem_append_left _ hq)))) hwv hX hX24 G C1 C3 hQ
    rcases List.mem_cons.mp hq with rfl | hq
    · exact ⟨by omega, neN (by dsimp only; omega), neN (by dsimp only; omega), neN (by dsimp only; omega)⟩
    rcases List.mem_append.mp hq with hq | hq
    · exact hobn q hq
    · exact w9 q hq
end
section
theorem rsL1 : True := by w_top off; k_with_none; trivial
open PySem PySem.W PyProof.Rows PySem.Calls PyProof.Rows.LSm
variable {fa : Addr}
local macro_rules | `(tactic| k_inst) => `(tactic| (refine' instNN ?N ?a ?b; (case N => assumption); (case a => k_mem); (case b => k_mem)))
local macro_rules | `(tactic| k_mem) => `(tactic| assumption)
theorem djRest {rest : List (Addr × Obj)} {a b c : Addr × Obj} (h1 : ∀ p ∈ rest, p.1 ≠ a.1) (h2 : ∀ p ∈ rest, p.1 ≠ b.1) (h3 : ∀ p ∈ rest, p.1 ≠ c.1) : ∀ p ∈ rest, ∀ q ∈ [a, b, c], p.1 ≠ q.1 := by
  intro p hp
  exact List.forall_mem_cons.mpr ⟨h1 p hp, List.forall_mem_cons.mpr ⟨h2 p hp, List.forall_mem_cons.mpr ⟨h3 p hp, List.forall_mem_nil _⟩⟩⟩
theorem apLex {P : Addr → Prop} {a1 a2 a3 a4 a5 a6 a7 a8 a9 : Addr × Obj} {x y z : Addr} {o o' p p' q q' : Obj} {l : List (Addr × Obj)} (h : ∀ r ∈ a1 :: a2 :: a3 :: a4 :: a5 :: a6 :: a7 :: a8 :: a9 :: (x, o) :: (y, p) :: (z, q) :: l, P r.1) : ∀ r ∈ a1 :: a2 :: a3 :: a4 :: a5 :: a6 :: a7 :: a8 :: a9 :: (x, o') :: (y, p') :: (z, q') :: l, P r.1 := by
  simp only [List.forall_mem_cons] at h ⊢
  exact h
theorem law1 {w : World} {mean : ExcName → Option Value} {mg mb : Str → Option Value} {A : Around} {g : Heap} {s : Shared} {Q : Flow → Shared → Prop} {L : Nat} {h : Heap} {tk : Nat} {m : Str → Option Value}
  {o1 o2 o3 o4 o5 o6 o7 : Obj} {x dx sr la pb lw : Nat} {tx : Str} {imm : List (Addr × Obj)} {es : List DictEntry} {t0 : Tok} {wv : List (Str × Tok)} {cw : Nat} {X : List Nat} (sc : Scope) (hsc : sc = lawD.2) (bd : List Stmt) (hbd : bd = lawD.1.drop 2)
  (F : Fr g L h m) (N : News g L h ((L + 1, o1) :: (L + 2, o2) :: (L + 3, o3) :: (L + 4, o4) :: (L + 5, o5) :: (L + 6, o6) :: (L + 7, o7) :: (180, tabObj #[]) :: (187, tabObj #[]) :: (dx, dictOf es 4) :: (la, listOf #[.int (0 : Nat) t0] 0) :: (pb, listOf #[] 0) :: (lw, listOf (strValues wv).toArray cw) :: imm))
  (hm : m (Str.ofString "words") = some (.ref lw))
  (hd1 : o1.data = .cell (some (.ref x))) (hd2 : o2.data = .cell none) (hd3 : o3.data = .cell none) (hd4 : o4.data = .cell none) (hd5 : o5.data = .cell none) (hd6 : o6.data = .cell none) (hd7 : o7.data = .cell none)
  (hes : LxEs w.params 1 sr pb es) (hW : LawS w L x dx sr la pb lw tx imm) (htx : tx = st (txl X X.length)) (hwv : wv.map (·.1) = wds X X.length) (hX : X.length = 5 ∨ X.length = 6) (hX24 : ∀ i, i < X.length → X.getD i 0 < 24)
  (G : Gr w mean mg mb (A.deeper (lawE fa sc L)) 20 g) (C1 : CodeHd g 184 180) (C3 : CodeHd g 189 187)
  (hQ : ∀ h' tk' m', Fr g L h' m' → GrownAt 180 h' → GrownAt 187 h' → Q (.ret (.bool true)) { s with heap := h', toks := tk' }) :
  wpAny (model VW w) (A.deeper (lawE fa sc L)) (execs bd (lawE fa sc L)) Q (fun _ _ => False) { s with heap := h, toks := tk } := by
  conv at hsc => rhs; whnf
  conv at hbd => rhs; whnf
  subst hsc
  subst hbd
  obtain ⟨hdl, dp, fr, gd, un⟩ := A
  obtain rfl : hdl = none := G.hh
  have X' := G.X
  have T' := G.T
  have hW0 := hW
  have wlF := hW.lit
  have hlx := hW.lex
  have w1 := hW.h1
  have w2 := hW.h2
  have w3 := hW.h3
  have w4 := hW.h4
  have w5 := hW.h5
  have w6 := hW.h6
  have w7 := hW.h7
  have w8 := hW.h8
  have wx := hW.hx
  have w9 := hW.h9
  replace F := Fr.as F [(Str.ofString "words", .ref lw)] (List.forall_mem_cons.mpr ⟨hm, List.forall_mem_nil _⟩)
  k_with "stop" => (with_reducible show wpAny _ _ (eval (Expr.ListComp _ _ _ _) _) _ _ _)
  k_steps
  refine listComp_ (cl := [(Str.ofString "lexer", L + 1)]) rfl rfl (by decide) ?_
  k_with_none
  k_with "stop" => (first | (with_reducible show wpAny _ _ (call (Value.builtin "len") _) _ _ _) | (with_reducible show wpAny _ _ (pyIter _) _ _ _))
  k_steps
  rename News _ _ _ _ => N1
  have hwl : wv.length = X.length := by have := congrArg List.length hwv; simpa [wds] using this
  refine lenN N1 (l := lw) (items := (strValues wv).toArray) (c := cw) (by k_mem) (by simp [strValues]; omega) ?_
  intro t1 tk1
  rw [show ((strValues wv).toArray.size : Int) = ((X.length : Nat) : Int) by simp [strValues, hwl]]
  k_steps
  rename IsRange _ _ _ _ _ _ _ _ => hr2
  rename News _ _ _ _ => N2
  rename Fr _ _ _ _ => F2
  obtain ⟨n, hn⟩ : ∃ n, n = X.length := ⟨_, rfl⟩
  rw [← hn] at hr2
  have hn6 : n ≤ 6 := by omega
  refine' compRange (m := _) hr2 (by omega) (by omega) (by omega) rfl (fun C i ys m₂ news₂ => Ex6 fun (p nl ln : Nat) (es : List DictEntry) (t : Tok) (l : List (Str × Tok)) => C8 (p + nl = (txl X (min i n)).length) ((nl = 0 ∨ nl = 1 ∧ tx.cps[p]? = some 10)) (ln + nl = 1 + min i n) ((i = n + 1 → nl = 0)) (LxEs w.params ln sr pb es) (ys = strValues l) (l.map (·.1) = (wds X n ++ [st []]).take i) (news₂ = ((L + 1, o1) :: (L + 2, o2) :: (L + 3, o3) :: (L + 4, o4) :: (L + 5, o5) :: (L + 6, o6) :: (L + 7, o7) :: (180, tabObj #[]) :: (187, tabObj #[]) :: (dx, dictOf es 4) :: (la, listOf #[.int (p : Nat) t] 0) :: (pb, listOf #[] 0) :: (lw, listOf (strValues wv).toArray cw) :: imm))) F2 N2 ?hJ ?turn ?done
  case hJ => exact fun C _ => ⟨0, 0, 1, es, t0, [], by rw [Nat.zero_min]; rfl, .inl rfl, by rw [Nat.zero_min], fun h => by omega, hes, rfl, rfl, rfl⟩
  case turn =>
    rintro I C D oL oI i tv ys cc mc₁ nw₁ h10 tk10 dc ld iD hi ⟨p, nl, ln, es, t, l, hp, hnl, hln, _, hes, rfl, hl, rfl⟩ hap F10 N10
    rw [Int.zero_add] at hi ⊢
    have hi' : i ≤ n := by omega
    rw [Nat.min_eq_left hi'] at hp hln
    unfold CompTurn
    have iD' := ltN iD
    have ld' := ltN ld
    have dc' : @Eq Nat (D + 1) C := dc
    have hes0 := hes
    obtain ⟨t1, t2, t3, t4, t5, t6, hes1⟩ := hes
    subst hes1
    k_with_none
    k_with "stop" => (with_reducible show wpAny _ _ (tests _ _) _ _ _)
    k_steps
    refine tests_nil ?_
    rw [if_pos rfl]
    k_with_none
    k_with "stop" => (with_reducible show wpAny _ _ (call _ (_ ++ _) _) _ _ _)
    k_steps
    k_with_none
    dsimp only [List.cons_append, List.nil_append]
    rename Fr _ _ _ _ => F11
    rename News _ _ _ _ => N11
    obtain ⟨wo, p', dl, nl', hlt, hwo, hp', hnl', hln', hend, hget⟩ : ∃ wo p' dl nl', LexTo tx (p + nl) wo p' dl ∧ wo.length ≤ 100 ∧ p' + nl' = (txl X (min (i + 1) n)).length ∧ (nl' = 0 ∨ nl' = 1 ∧ tx.cps[p']? = some 10) ∧ ln + nl + dl + nl' = 1 + min (i + 1) n ∧ (i + 1 = n + 1 → nl' = 0) ∧ (wds X n ++ [st []])[i]? = some (st wo) := by
      have hwl2 : (wds X n).length = n := by unfold wds; simp
      by_cases hin : i < n
      · obtain ⟨p', dl, nl', a1, a2, a3, a4⟩ := lexStep (X := X) (n := n) hin hp
        rw [← hn] at htx
        rw [← htx] at a1 a3
        refine ⟨_, p', dl, nl', a1, by have := wl_len i (X.getD i 0); omega, by rw [Nat.min_eq_left (by omega)]; exact a2, a3, by omega, by omega, ?_⟩
        rw [List.getElem?_append_left (by omega)]
        unfold wds
        rw [List.getElem?_map, List.getElem?_range hin]; rfl
      · have hin' : i = n := by omega
        subst hin'
        have a1 := lexEnd (X := X) hp
        rw [← hn] at htx
        rw [← htx] at a1
        refine ⟨[], p + nl, 0, 0, a1, by simp, by rw [Nat.min_eq_right (by omega)]; exact hp, .inl rfl, by omega, fun _ => rfl, ?_⟩
        rw [List.getElem?_append_right (by omega), hwl2, Nat.sub_self]; rfl
    have htz : tx.cps.size = (txl X n).length := by rw [htx, hn]; show (txl X X.length).toArray.size = _; simp
    have hpz : p + nl ≤ tx.cps.size := by
      rw [htz, hp]
      rcases Nat.lt_or_ge i n with h | h
      · obtain ⟨r, hr⟩ := txl_split X h
        rw [hr, List.length_append]; omega
      · rw [show i = n by omega]; exact Nat.le_refl _
    have hapI := neN (hap (dx, dictOf _ 4) (by k_mem)).1
    have hapD := neN (hap (dx, dictOf _ 4) (by k_mem)).2.1
    have hapI2 := neN (hap (la, listOf #[.int (p : Nat) t] 0) (by k_mem)).1
    have hapD2 := neN (hap (la, listOf #[.int (p : Nat) t] 0) (by k_mem)).2.1
    have hapI3 := neN (hap (pb, listOf #[] 0) (by k_mem)).1
    have hapD3 := neN (hap (pb, listOf #[] 0) (by k_mem)).2.1
    dsimp only at hapI hapD hapI2 hapD2 hapI3 hapD3
    refine' callOn F11 N11 [(dx, dictOf _ 4), (la, listOf #[.int (p : Nat) t] 0), (pb, listOf #[] 0)] ((D, listOf (strValues l).toArray cc) :: (I, oI) :: (L, oL) :: (L + 1, o1) :: (L + 2, o2) :: (L + 3, o3) :: (L + 4, o4) :: (L + 5, o5) :: (L + 6, o6) :: (L + 7, o7) :: (180, tabObj #[]) :: (187, tabObj #[]) :: (lw, listOf (strValues wv).toArray cw) :: imm) ?hu ?hr ?dj ?_
    case hu => exact List.forall_mem_cons.mpr ⟨by k_mem, List.forall_mem_cons.mpr ⟨by k_mem, List.forall_mem_cons.mpr ⟨by k_mem, List.forall_mem_nil _⟩⟩⟩
    case hr => exact List.forall_mem_cons.mpr ⟨by k_mem, List.forall_mem_cons.mpr ⟨by k_mem, List.forall_mem_cons.mpr ⟨by k_mem, List.forall_mem_cons.mpr ⟨by k_mem, List.forall_mem_cons.mpr ⟨by k_mem, List.forall_mem_cons.mpr ⟨by k_mem, List.forall_mem_cons.mpr ⟨by k_mem, List.forall_mem_cons.mpr ⟨by k_mem, List.forall_mem_cons.mpr ⟨by k_mem, List.forall_mem_cons.mpr ⟨by k_mem, List.forall_mem_cons.mpr ⟨by k_mem, List.forall_mem_cons.mpr ⟨by k_mem, List.forall_mem_cons.mpr ⟨by k_mem, fun q hq => memDrop 16 hq⟩⟩⟩⟩⟩⟩⟩⟩⟩⟩⟩⟩⟩
    case dj => exact djRest (List.forall_mem_cons.mpr ⟨by k_ne, List.forall_mem_cons.mpr ⟨by k_ne, List.forall_mem_cons.mpr ⟨by k_ne, List.forall_mem_cons.mpr ⟨by k_ne, List.forall_mem_cons.mpr ⟨by k_ne, List.forall_mem_cons.mpr ⟨by k_ne, List.forall_mem_cons.mpr ⟨by k_ne, List.forall_mem_cons.mpr ⟨by k_ne, List.forall_mem_cons.mpr ⟨by k_ne, List.forall_mem_cons.mpr ⟨by k_ne, List.forall_mem_cons.mpr ⟨by k_ne, List.forall_mem_cons.mpr ⟨by k_ne, List.forall_mem_cons.mpr ⟨by k_ne, (fun q hq => (w9 q hq).2.1)⟩⟩⟩⟩⟩⟩⟩⟩⟩⟩⟩⟩⟩) (List.forall_mem_cons.mpr ⟨by k_ne, List.forall_mem_cons.mpr ⟨by k_ne, List.forall_mem_cons.mpr ⟨by k_ne, List.forall_mem_cons.mpr ⟨by k_ne, List.forall_mem_cons.mpr ⟨by k_ne, List.forall_mem_cons.mpr ⟨by k_ne, List.forall_mem_cons.mpr ⟨by k_ne, List.forall_mem_cons.mpr ⟨by k_ne, List.forall_mem_cons.mpr ⟨by k_ne, List.forall_mem_cons.mpr ⟨by k_ne, List.forall_mem_cons.mpr ⟨by k_ne, List.forall_mem_cons.mpr ⟨by k_ne, List.forall_mem_cons.mpr ⟨by k_ne, (fun q hq => (w9 q hq).2.2.1)⟩⟩⟩⟩⟩⟩⟩⟩⟩⟩⟩⟩⟩) (List.forall_mem_cons.mpr ⟨by k_ne, List.forall_mem_cons.mpr ⟨by k_ne, List.forall_mem_cons.mpr ⟨by k_ne, List.forall_mem_cons.mpr ⟨by k_ne, List.forall_mem_cons.mpr ⟨by k_ne, List.forall_mem_cons.mpr ⟨by k_ne, List.forall_mem_cons.mpr ⟨by k_ne, List.forall_mem_cons.mpr ⟨by k_ne, List.forall_mem_cons.mpr ⟨by k_ne, List.forall_mem_cons.mpr ⟨by k_ne, List.forall_mem_cons.mpr ⟨by k_ne, List.forall_mem_cons.mpr ⟨by k_ne, List.forall_mem_cons.mpr ⟨by k_ne, (fun q hq => (w9 q hq).2.2.2)⟩⟩⟩⟩⟩⟩⟩⟩⟩⟩⟩⟩⟩)
    intro g' st' sz' O' hg' hk'
    have hlg := hlx g' (fun q hq => hg' q (memDrop 13 hq))
    refine getTok (wo := wo) hlg hes0 w6 w7 w8 hnl hpz hwo hlt O' ((G.keeps st').le (by omega)) ?_
    intro h12 tk12 es12 t12 t12' hes12 O12
    refine ⟨_, h12, tk12, _, rfl, rfl, O12, fun F12 N12 => ?_⟩
    clear F11 N11 hg' hk' O' O12 st' sz' hlg
    dsimp only [List.cons_append, List.nil_append] at N12
    refine ⟨_, _, _, ((L + 1, o1) :: (L + 2, o2) :: (L + 3, o3) :: (L + 4, o4) :: (L + 5, o5) :: (L + 6, o6) :: (L + 7, o7) :: (180, tabObj #[]) :: (187, tabObj #[]) :: (dx, dictOf es12 4) :: (la, listOf #[.int (p' : Nat) t12] 0) :: (pb, listOf #[] 0) :: (lw, listOf (strValues wv).toArray cw) :: imm), rfl, F12, newsSub N12 (List.forall_mem_cons.mpr ⟨by k_mem, List.forall_mem_cons.mpr ⟨by k_mem, List.forall_mem_cons.mpr ⟨by k_mem, List.forall_mem_cons.mpr ⟨by k_mem, List.forall_mem_cons.mpr ⟨by k_mem, List.forall_mem_cons.mpr ⟨by k_mem, List.forall_mem_cons.mpr ⟨by k_mem, List.forall_mem_cons.mpr ⟨by k_mem, List.forall_mem_cons.mpr ⟨by k_mem, List.forall_mem_cons.mpr ⟨by k_mem, List.forall_mem_cons.mpr ⟨by k_mem, List.forall_mem_cons.mpr ⟨by k_mem, List.forall_mem_cons.mpr ⟨by k_mem, List.forall_mem_cons.mpr ⟨by k_mem, List.forall_mem_cons.mpr ⟨by k_mem, List.forall_mem_cons.mpr ⟨by k_mem, fun q hq => memDrop 16 hq⟩⟩⟩⟩⟩⟩⟩⟩⟩⟩⟩⟩⟩⟩⟩⟩), ?_, p', nl', _, es12, t12, l ++ [(st wo, t12')], hp', hnl', ?_, hend, hes12, strV_snoc, ?_, rfl⟩
    · exact apLex (P := fun a => a ≠ I ∧ a ≠ D ∧ a ≠ L) hap
    · exact hln'
    · rw [List.map_append, hl, List.take_add_one, hget]; rfl
  case done =>
    rintro C D ys cc mc₁ nw₁ h10 tk10 dc ld ⟨p, nl, ln, es, t, l, hp, hnl, hln, hnl0, hes, rfl, hl, rfl⟩ hap F10 N10
    have ez : ((n : Int) + 1 - 0).toNat = n + 1 := by omega
    rw [ez] at hp hln hnl0 hl
    rw [Nat.min_eq_right (Nat.le_succ n)] at hp hln
    have hnl1 := hnl0 rfl
    subst hnl1
    have hwl2 : (wds X n).length = n := by unfold wds; simp
    rw [List.take_of_length_le (by simp [hwl2])] at hl
    have hDne : ∀ q ∈ imm, q.1 ≠ D := fun q hq => hap q (memDrop 13 hq)
    k_with_none
    k_with "stop" => (first | (with_reducible show wpAny _ _ (binaryOp .Add _ _) _ _ _) | (with_reducible show wpAny _ _ (compareOp CmpOp.NotEq _ _) _ _ _))
    k_steps
    rename Fr _ _ _ _ => F11
    rename News _ _ _ _ => N11
    refine' kmk_add_lit (zs := strValues (wv ++ [(Str.ofString "", _)])) F11 N11 (isListN N11 (l := lw) (by k_mem)) (isListN N11 (.head _)) ?e ?_ ?z
    case e => exact strV_snoc
    case z => rw [sizeLine_eq]; show (strValues wv).length + 1 ≤ _; simp [strValues]; omega
    intro D2 h12 F12 N12 l2
    clear F11 N11
    refine neStrs N12 (a := D) (b := D2) (by k_mem) (.head _) ?_ ?_ (by have := G.units; omega) ?_
    · rw [hl, List.map_append, hwv, ← hn]
      show _ = wds X n ++ [Str.ofString ""]
      rw [show Str.ofString "" = st [] by decide +kernel]
    · rw [hl]
      intro q hq
      rcases List.mem_append.mp hq with hq | hq
      · exact wds_ok hn6 q hq
      · rw [List.mem_singleton.mp hq]; exact st_ok (fun _ h => nomatch h)
    replace N12 := newsSub (news' := ((L + 1, o1) :: (L + 2, o2) :: (L + 3, o3) :: (L + 4, o4) :: (L + 5, o5) :: (L + 6, o6) :: (L + 7, o7) :: (180, tabObj #[]) :: (187, tabObj #[]) :: (dx, dictOf es 4) :: (la, listOf #[.int (p : Nat) t] 0) :: (pb, listOf #[] 0) :: (lw, listOf (strValues wv).toArray cw) :: imm)) N12 (List.forall_mem_cons.mpr ⟨by k_mem, List.forall_mem_cons.mpr ⟨by k_mem, List.forall_mem_cons.mpr ⟨by k_mem, List.forall_mem_cons.mpr ⟨by k_mem, List.forall_mem_cons.mpr ⟨by k_mem, List.forall_mem_cons.mpr ⟨by k_mem, List.forall_mem_cons.mpr ⟨by k_mem, List.forall_mem_cons.mpr ⟨by k_mem, List.forall_mem_cons.mpr ⟨by k_mem, List.forall_mem_cons.mpr ⟨by k_mem, List.forall_mem_cons.mpr ⟨by k_mem, List.forall_mem_cons.mpr ⟨by k_mem, List.forall_mem_cons.mpr ⟨by k_mem, fun q hq => memDrop 16 hq⟩⟩⟩⟩⟩⟩⟩⟩⟩⟩⟩⟩⟩)
    have hes0 := hes
    obtain ⟨t1, t2, t3, t4, t5, t6, hes1⟩ := hes
    subst hes1
    k_with_none
    k_with "stop" => (first | (with_reducible show wpAny _ _ (call (Value.builtin "len") _) _ _ _) | (with_reducible show wpAny _ _ (compareOp CmpOp.NotEq _ _) _ _ _))
    k_steps
    rename Fr _ _ _ _ => F13
    rename News _ _ _ _ => N13
    refine lenN N13 (l := lw) (items := (strValues wv).toArray) (c := cw) (by k_mem) (by simp [strValues]; omega) ?_
    intro t14 tk14
    rw [show ((strValues wv).toArray.size : Int) = ((n : Nat) : Int) by simp [strValues, hwl, hn]]
    k_steps
    refine ne_int ?_
    rw [show ((((ln : Nat) : Int) != ((n : Nat) : Int) + 1)) = false by rw [bne_eq_false_iff_eq]; omega]
    k_with_none
    k_with "stop" => (with_reducible show wpAny _ _ (execs (Stmt.Assign _ _ _ :: _) _) _ _ _)
    k_steps
    have epz : tx.cps.size = (txl X n).length := by rw [htx, hn]; rfl
    obtain rfl : p = tx.cps.size := by omega
    dsimp only
    exact law3 (imm := imm) _ rfl _ rfl F13 N13 (by first | rfl | assumption) hd1 hd2 hd3 hd4 hd5 hd6 hd7 hes0 hW0 hwv hX hX24 G C1 C3 hQ
end
section
theorem rsLa : True := by w_top off; k_with_none; trivial
open PySem PySem.W PyProof.Rows PySem.Calls PyProof.Rows.LSm
variable {fa : Addr}
theorem law0 {w : World} {mean : ExcName → Option Value} {mg mb : Str → Option Value} {A : Around} {g : Heap} {s : Shared} {Q : Flow → Shared → Prop} {L : Nat} {h : Heap} {tk : Nat} {m : Str → Option Value}
  {o1 o2 o3 o4 o5 o6 o7 : Obj} {l : Addr} {vs : List Value} {ns : List Int} (sc : Scope) (hsc : sc = lawD.2) (bd : List Stmt) (hbd : bd = lawD.1)
  (F : Fr g L h m) (N : News g L h [(L + 7, o7), (L + 6, o6), (L + 5, o5), (L + 4, o4), (L + 3, o3), (L + 2, o2), (L + 1, o1), (180, tabObj #[]), (158, tabObj #[]), (187, tabObj #[])])
  (hm : m (Str.ofString "script") = some (.ref l))
  (hd1 : o1.data = .cell none) (hd2 : o2.data = .cell none) (hd3 : o3.data = .cell none) (hd4 : o4.data = .cell none) (hd5 : o5.data = .cell none) (hd6 : o6.data = .cell none) (hd7 : o7.data = .cell none)
  (G : Gr w mean mg mb (A.deeper (lawE fa sc L)) 20 g) (hl : g.IsList l vs.toArray) (hi : IntsAre vs ns) (hsz : ns.length ≤ 63) (hL : 187 < L)
  (C1 : CodeHd g 184 180) (C2 : CodeHd g 162 158) (C3 : CodeHd g 189 187)
  (hgz : 158 < g.objs.size) (hQ : ∀ h' tk' m', Fr g L h' m' → GrownAt 180 h' → GrownAt 158 h' → GrownAt 187 h' → Q (.ret (.bool true)) { s with heap := h', toks := tk' }) :
  wpAny (model VW w) (A.deeper (lawE fa sc L)) (execs bd (lawE fa sc L)) Q (fun _ _ => False) { s with heap := h, toks := tk } := by
  conv at hsc => rhs; whnf
  conv at hbd => rhs; whnf
  subst hsc
  subst hbd
  obtain ⟨hdl, dp, fr, gd, un⟩ := A
  obtain rfl : hdl = none := G.hh
  have X' := G.X
  have T' := G.T
  replace F := Fr.as F [(Str.ofString "script", .ref l)] (List.forall_mem_cons.mpr ⟨hm, List.forall_mem_nil _⟩)
  k_with "stop" => (with_reducible show wpAny _ _ (call (Value.ref _) _ _) _ _ _)
  k_steps
  k_with_none
  refine' callOn F N [(L + 7, o7)] [(L + 6, o6), (L + 5, o5), (L + 4, o4), (L + 3, o3), (L + 2, o2), (L + 1, o1), (180, tabObj #[]), (158, tabObj #[]), (187, tabObj #[])] ?hu0 ?hr0 ?dj0 (fun g' st' sz' O' hg' hk' => ?_)
  case hu0 => exact List.forall_mem_cons.mpr ⟨by k_mem, List.forall_mem_nil _⟩
  case hr0 => exact fun q hq => .tail _ hq
  case dj0 => exact m_dj1 (List.forall_mem_cons.mpr ⟨by k_ne, List.forall_mem_cons.mpr ⟨by k_ne, List.forall_mem_cons.mpr ⟨by k_ne, List.forall_mem_cons.mpr ⟨by k_ne, List.forall_mem_cons.mpr ⟨by k_ne, List.forall_mem_cons.mpr ⟨by k_ne, List.forall_mem_cons.mpr ⟨by k_ne, List.forall_mem_cons.mpr ⟨by k_ne, List.forall_mem_cons.mpr ⟨by k_ne, List.forall_mem_nil _⟩⟩⟩⟩⟩⟩⟩⟩⟩)
  refine lawPage O' ((G.keeps st').le (by omega)) ⟨_, st' _ _ hl.choose_spec.1, hl.choose_spec.2⟩ hi hsz ?_
  intro h2 tk2 T lw tt cw wv hwv hlT hzl O2
  refine ⟨_, h2, tk2, _, rfl, rfl, O2, fun F2 N2 => ?_⟩
  have hzl' := ltN hzl
  have hlT' := ltN hlT
  clear hg' hk' O' O2 F
  dsimp only [List.cons_append, List.nil_append] at N2
  k_with "stop" => (with_reducible show wpAny _ _ (call (Value.ref _) _ _) _ _ _)
  k_steps
  k_with_none
  rename News _ _ _ _ => N3
  rename Fr _ _ _ _ => F3
  have hts : (st (txl (pgX ns) (pgX ns).length)).length ≤ 10000 := by
    rw [st_len]
    have := txl_len (pgX ns) (pgX ns).length
    have h6 : (pgX ns).length = 5 ∨ (pgX ns).length = 6 := by unfold pgX; rw [List.length_map]; exact pgZ_len ns
    omega
  refine' callOn F3 N3 [(158, tabObj #[]), (lw, listOf (strValues wv).toArray cw)] [(L + 7, o7), (L + 6, o6), (L + 5, o5), (L + 4, o4), (L + 3, o3), (L + 2, o2), (L + 1, o1), (180, tabObj #[]), (187, tabObj #[])] ?hu ?hr ?dj (fun g4 st4 sz4 O4 hg4 hk4 => ?_)
  case hu => exact List.forall_mem_cons.mpr ⟨by k_mem, List.forall_mem_cons.mpr ⟨by k_mem, List.forall_mem_nil _⟩⟩
  case hr =>
    intro q hq
    simp only [List.mem_cons, List.not_mem_nil, or_false] at hq ⊢
    rcases hq with rfl | rfl | rfl | rfl | rfl | rfl | rfl | rfl | rfl <;> simp
  case dj => exact m_dj (List.forall_mem_cons.mpr ⟨by k_ne, List.forall_mem_cons.mpr ⟨by k_ne, List.forall_mem_cons.mpr ⟨by k_ne, List.forall_mem_cons.mpr ⟨by k_ne, List.forall_mem_cons.mpr ⟨by k_ne, List.forall_mem_cons.mpr ⟨by k_ne, List.forall_mem_cons.mpr ⟨by k_ne, List.forall_mem_cons.mpr ⟨by k_ne, List.forall_mem_cons.mpr ⟨by k_ne, List.forall_mem_nil _⟩⟩⟩⟩⟩⟩⟩⟩⟩) (List.forall_mem_cons.mpr ⟨by k_ne, List.forall_mem_cons.mpr ⟨by k_ne, List.forall_mem_cons.mpr ⟨by k_ne, List.forall_mem_cons.mpr ⟨by k_ne, List.forall_mem_cons.mpr ⟨by k_ne, List.forall_mem_cons.mpr ⟨by k_ne, List.forall_mem_cons.mpr ⟨by k_ne, List.forall_mem_cons.mpr ⟨by k_ne, List.forall_mem_cons.mpr ⟨by k_ne, List.forall_mem_nil _⟩⟩⟩⟩⟩⟩⟩⟩⟩)
  refine lexNew (ltN (by omega)) O4 ((G.keeps st4).le (by omega)) (C2.keeps st4) hts ?_
  intro h5 tk5 x dx sr la pb es t0 imm pz hes hda hdb hab hzd O5 himm hxm hlx
  refine ⟨_, h5, tk5, _, rfl, rfl, O5, fun F5 N5 => ?_⟩
  have hz1 := ltN hzd.1
  have hz2 := ltN hzd.2.1
  have hz3 := ltN hzd.2.2
  have hda' := neN hda
  have hdb' := neN hdb
  have hab' := neN hab
  have hW : LawS w L x dx sr la pb lw (st (txl (pgX ns) (pgX ns).length)) imm := ⟨hlx, hL, hzl', hz1, hz2, hz3, hda', hdb', hab', hxm, himm⟩
  have wlF := hW.lit
  dsimp only [List.cons_append] at N5
  obtain ⟨g8, st8, sz8, g158, F8, hN8⟩ := rebase F5 (N5 (158, tabObj pz) (.head _)) hgz rfl
  replace N5 : News g L h5 ((L + 1, o1) :: (L + 2, o2) :: (L + 3, o3) :: (L + 4, o4) :: (L + 5, o5) :: (L + 6, o6) :: (L + 7, o7) :: (180, tabObj #[]) :: (187, tabObj #[]) :: (dx, dictOf es 4) :: (la, listOf #[.int (0 : Nat) t0] 0) :: (pb, listOf #[] 0) :: (lw, listOf (strValues wv).toArray cw) :: imm) := newsSub N5 (List.forall_mem_cons.mpr ⟨(memDrop 5 (List.mem_append_right _ (by k_mem))), List.forall_mem_cons.mpr ⟨(memDrop 5 (List.mem_append_right _ (by k_mem))), List.forall_mem_cons.mpr ⟨(memDrop 5 (List.mem_append_right _ (by k_mem))), List.forall_mem_cons.mpr ⟨(memDrop 5 (List.mem_append_right _ (by k_mem))), List.forall_mem_cons.mpr ⟨(memDrop 5 (List.mem_append_right _ (by k_mem))), List.forall_mem_cons.mpr ⟨(memDrop 5 (List.mem_append_right _ (by k_mem))), List.forall_mem_cons.mpr ⟨(memDrop 5 (List.mem_append_right _ (by k_mem))), List.forall_mem_cons.mpr ⟨(memDrop 5 (List.mem_append_right _ (by k_mem))), List.forall_mem_cons.mpr ⟨(memDrop 5 (List.mem_append_right _ (by k_mem))), List.forall_mem_cons.mpr ⟨.tail _ (.head _), List.forall_mem_cons.mpr ⟨memAt 2 rfl, List.forall_mem_cons.mpr ⟨memAt 3 rfl, List.forall_mem_cons.mpr ⟨memAt 4 rfl, fun q hq => memDrop 5 (List.mem_append_left _ hq)⟩⟩⟩⟩⟩⟩⟩⟩⟩⟩⟩⟩⟩)
  replace N5 := hN8 _ N5 ?nz
  case nz =>
    exact List.forall_mem_cons.mpr ⟨by first | k_ne | decide, List.forall_mem_cons.mpr ⟨by first | k_ne | decide, List.forall_mem_cons.mpr ⟨by first | k_ne | decide, List.forall_mem_cons.mpr ⟨by first | k_ne | decide, List.forall_mem_cons.mpr ⟨by first | k_ne | decide, List.forall_mem_cons.mpr ⟨by first | k_ne | decide, List.forall_mem_cons.mpr ⟨by first | k_ne | decide, List.forall_mem_cons.mpr ⟨by first | k_ne | decide, List.forall_mem_cons.mpr ⟨by first | k_ne | decide, List.forall_mem_cons.mpr ⟨by first | k_ne | decide, List.forall_mem_cons.mpr ⟨by first | k_ne | decide, List.forall_mem_cons.mpr ⟨by first | k_ne | decide, List.forall_mem_cons.mpr ⟨by first | k_ne | decide, fun q hq => by have := ltN (hW.h9 q hq).1; k_ne⟩⟩⟩⟩⟩⟩⟩⟩⟩⟩⟩⟩⟩
  clear F5
  have i1 : ∀ q ∈ imm, q.1 ≠ L + 1 := fun q hq => by have := ltN (hW.h9 q hq).1; k_ne
  k_with "stop" => (with_reducible show wpAny _ _ (execs (Stmt.If _ _ _ _ :: _) _) _ _ _)
  k_steps
  rename News _ _ _ _ => N6
  rename Fr _ _ _ _ => F6
  have hX6 : (pgX ns).length = 5 ∨ (pgX ns).length = 6 := by unfold pgX; rw [List.length_map]; exact pgZ_len ns
  refine law1 _ rfl _ rfl F6 N6 rfl (by assumption) hd2 hd3 hd4 hd5 hd6 hd7 hes hW rfl hwv hX6 (fun i hi => ?_) (G.keeps st8) (C1.keeps st8) (C3.keeps st8) (fun h' tk' m' F' a b => hQ h' tk' m' ⟨F'.ns, fun b o e => F'.keep _ _ (st8 _ _ e), Nat.le_trans (Nat.le_of_eq sz8.symm) F'.above⟩ a ⟨_, F'.keep _ _ g158⟩ b)
  obtain ⟨y, hy1, _, hy3⟩ := pgX_get (ns := ns) (i := i) (by unfold pgX at hi; rwa [List.length_map] at hi)
  rw [List.getD_eq_getElem?_getD, hy1]; exact hy3
end
section
theorem rsTop : True := by w_top off; k_with_none; trivial
open PySem PySem.W PyProof.Rows PySem.Calls PyProof.Rows.LSm
theorem wpE {α : Type} {M : Model} {A : Around} {c} {Q : α → Shared → Prop} {E : Value → Shared → Prop} {s : Shared} (h : wpAny M A c Q (fun _ _ => False) s) : wpAny M A c Q E s := wpAny_mono h (fun _ _ h => h) (fun _ _ e => e.elim)
theorem top : Challenge.rw_pe0240_01.Holds := by
  refine holds_law (by kernel_rfl) fun said => ?_
  refine holds_open (q := vw) (loose := [Str.ofString "insort_right", Str.ofString "bisect_right", Str.ofString "bisect_left", Str.ofString "Whitespace"]) (Xt := xt) (XP := XL vw []) (Yf := hk.obs) (Ya := hk.val) (YP := hk.says) (N := 2482) left0 (Hook.of hk) (Hook.keeps hk) (fun s e => xl_of s (Bool.and_eq_true_iff.mp e).1) XL.keeps (by rfl) (by rfl) (by rfl) (fun s e => recFacts_of (Bool.and_eq_true_iff.mp e).2) (by rfl) said (by decide +kernel) ⟨rfl, rfl, rfl, rfl, rfl, by decide +kernel⟩ ?hw ?hc
  case hw => w_witness2
  clear said
  delta hk
  k_go0
  rename Fr _ _ _ _ => F
  rename News _ _ _ _ => N
  rename Heap.IsList _ _ _ => hli
  rename IntsAre _ _ => hi
  rename ¬ _ < _ => hc
  rename (dk.heap_1 _).In _ => X1
  rename Top topProg _ _ _ _ _ => T1
  rename _ ∧ _ ∧ _ => l0
  refine wpE ?_
  show wpAny (model VW _) _ _ _ _ _
  with_unfolding_all (show wpAny (model VW _) (callerA.deeper (lawE _ lawD.2 _)) _ _ _ _)
  refine law0 (A := callerA) _ rfl _ rfl F N rfl (by assumption) (by assumption) (by assumption) (by assumption) (by assumption) (by assumption) (by assumption) ⟨X1, T1, rfl, by simp only [depth_deeper]; decide, by simp only [units_deeper]; decide⟩ hli hi (by omega) (by omega) (by assumption) (by assumption) (by assumption) ?gz (fun h' tk' m' F' k1 k2 k3 => ?_)
  case gz => rw [ghostOf, hideAll_size]; omega
  refine ⟨goodW_reads F' (by assumption) (raisesW_false (by wrow_none_raised)) (.bool true) unshared_nil ?_, k1, k2, k3, True.intro⟩
  exact postW_of (by wrow_shape) (by wtm_val) (by w_fin)
end
end Mine
theorem PySem.Challenge.cw_pe0240_01_holds : PySem.Challenge.rw_pe0240_01.Holds :=
  Mine.top
