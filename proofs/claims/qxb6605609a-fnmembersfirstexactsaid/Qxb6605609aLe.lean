/-
  FnMembersFirstExact: its code in parts.
-/
import Derived.Test.Qxb6605609aLb
import Derived.Test.Qxb6605609aMd9
import Derived.Test.Qxb6605609aHl
namespace Go.Proofs.Qxb6605609a
open Go.RowKit

noncomputable def code5 (k : Nat) : Code := (Try.f5.body.bind (tailAt k)).getD .skip
noncomputable def head5 (k : Nat) : Code := match code5 k with
  | .seq a _ => a
  | c => c
noncomputable def rest5 (k : Nat) : Code := match code5 k with
  | .seq _ b => b
  | _ => .skip
/-- From region k on. -/
def From5 (k : Nat) (Post : Ending → World → Prop) (a : Act) (w : World) : Prop :=
  ∀ K : Act → World → Prop, (∀ a w, (rest5 k).wp Try.prog (bodyPost Try.prog Try.f5 Post) a w → K a w) → (head5 k).wp Try.prog (Exit.then K (bodyPost Try.prog Try.f5 Post)) a w

/-- The model tells the same. -/
def SameAs (adj : Nat → List Nat) (cf : Nat → Nat) (n : Nat) (out : List Nat) : Prop :=
  ∀ (wl hol : Nat → List Nat) (D : List Nat) (ws : Nat → Int), WaitC adj cf n wl hol → Kahn n (wlC cf n wl) D [] [] ws → Lst (fun a b => a ≤ b) n (wlC cf n wl) D → D.flatMap (partC cf n) = out

set_option maxRecDepth 1000000 in
def E12 (w : World) (ss : Nat → ByteArray) (ln : Nat → Nat) (ms : Nat → Nat → ByteArray) (Post : Ending → World → Prop) : Prop :=
  ∀ (wk : World) (a a1 : Option Addr) (n c c1 : Nat) (la : Nat → Option Addr) (lc : Nat → Nat), Below w.heap.size w wk → SlAt wk a n (fun j => .string (ss j)) → Lists wk a1 n la ln lc ms → n ≤ 4096 → (∀ k, k < n → ln k ≤ 131072) → Asc ss n → ∀ (y2 y3 y4 y5 y6 y7 y8 y9 y10 y11 y12 y13 y14 y15 y16 y17 y18 y19 y20 y21 y22 y23 y24 y25 y26 y27 y28 y29 y30 y31 y32 y33 y34 y35 y36 y37 y38 y39 y40 y41 y42 y43 y44 y45 y46 y47 y48 y49 y50 y51 y52 y53 y54 y55 y56 y57 y58 y59 y60 y61 y62 y63 y64 y65 y66 y67 y68 y69 y70 y71 y72 y73 y74 y75 y76 y77 y78 y79 y80 y81 y82 y83 y84 y85 y86 y87 y88 y89 y90 y91 y92 y93 y94 y95 y96 y97 y98 y99 y100 y101 y102 y103 y104 y105 y106 y107 y108 y109 y110 y111 y112 y113 y114 y115 y116 y117 y118 y119 y120 y121 y122 y123 y124 y125 y126 y127 y128 y129 y130 y131 y132 y133 y134 y135 y136 y137 y138 y139 y140 y141 y142 y143 y144 y145 y146 y147 y148 y149 : Value), From5 12 Post ⟨#[.slice a n c, .slice a1 n c1, y2, y3, y4, y5, y6, y7, y8, y9, y10, y11, y12, y13, y14, y15, y16, y17, y18, y19, y20, y21, y22, y23, y24, y25, y26, y27, y28, y29, y30, y31, y32, y33, y34, y35, y36, y37, y38, y39, y40, y41, y42, y43, y44, y45, y46, y47, y48, y49, y50, y51, y52, y53, y54, y55, y56, y57, y58, y59, y60, y61, y62, y63, y64, y65, y66, y67, y68, y69, y70, y71, y72, y73, y74, y75, y76, y77, y78, y79, y80, y81, y82, y83, y84, y85, y86, y87, y88, y89, y90, y91, y92, y93, y94, y95, y96, y97, y98, y99, y100, y101, y102, y103, y104, y105, y106, y107, y108, y109, y110, y111, y112, y113, y114, y115, y116, y117, y118, y119, y120, y121, y122, y123, y124, y125, y126, y127, y128, y129, y130, y131, y132, y133, y134, y135, y136, y137, y138, y139, y140, y141, y142, y143, y144, y145, y146, y147, y148, y149], []⟩ wk

end Go.Proofs.Qxb6605609a
