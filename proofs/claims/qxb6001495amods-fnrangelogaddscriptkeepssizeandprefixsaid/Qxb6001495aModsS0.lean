import Derived.Test.Qxb6001495aModsPl
import Derived.Deep.DeepCutAuto
namespace Go.Proofs.Qxb6001495aMods.L
open Go.RowKit

/-- a piece of a function's body, by its place -/
def sub : List Nat → Code → Code
  | [], c => c
  | i :: p, .seq a b => sub p (if i = 0 then a else b)
  | _ :: p, .block _ c => sub p c
  | _ :: p, .loop c => sub p c
  | i :: p, .cond _ a b => sub p (if i = 0 then a else b)
  | _, c => c

/-- The log between two rounds. -/
structure St (w3 : World) (lb plen c : Nat) (base : Int) (es : List (Int × Int)) (a : Option Addr) (cap : Nat) (w : World) : Prop where
  log : Log w lb base es (sumN es) a cap
  lens : Lens es
  len : es.length ≤ c
  cp : c ≤ plen
  p4 : plen ≤ 4096
  b0 : 0 ≤ base
  bT : base ≤ 18446744073707454463
  bel : Below lb w3 w

/-- Behind j rounds of the script. -/
def Inv (w3 : World) (lb : Nat) (plen : Nat) (c : Nat) (wr : World) : Prop := ∃ base es a cap, St w3 lb plen c base es a cap wr

/-- What is owed where a round's block ends. -/
def Done (Q : Exit → Act → World → Prop) (w3 : World) (lb plen j : Nat) (s0 s1 s2 s3 s4 s5 s28 s29 s30 s31 s32 s33 s34 s35 s36 s37 s38 s39 s40 s41 s42 s43 s44 s45 s46 s47 s48 s49 s50 s51 s52 s53 s54 s55 s56 s57 s58 s59 s60 s61 s62 s63 s64 s65 s66 s67 s68 s69 : Value) : Prop :=
  ∀ {y6 y10 y11 y12 y13 y14 y15 y16 y17 y18 y19 y20 y21 y22 y23 y24 y25 y26 y27 y70 y71 y72 y73 y74 y75 y76 y77 y78 y79 y80 y81 y82 y83 y84 y85 y86 y87 y88 y89 y90 y91 y92 y93 y94 y95 y96 y97 y98 y99 y100 y101 y102 y103 y104 y105 y106 y107 y108 y109 y110 y111 y112 y113 y114 y115 y116 y117 y118 y119 y120 y121 y122 y123 y124 y125 y126 y127 y128 y129 y130 y131 y132 y133 y134 y135 y136 y137 y138 y139 y140 y141 y142 y143 y144 y145 y146 y147 y148 y149 y150 y151 y152 y153 y154 y155 y156 y157 y158 y159 y160 y161 y162 y163 y164 y165 y166 y167 y168 y169 y170 y171 y172 y173 y174 y175 y176 y177 y178 y179 y180 y181 y182 y183 y184 y185 y186 y187 y188 y189 y190 y191 y192 y193 y194 y195 y196 y197 y198 y199 y200 y201 y202 y203 y204 y205 y206 y207 y208 y209 y210 y211 : Value} (c : Nat) (w' : World), Inv w3 lb plen c w' → Q .normal ⟨#[s0, s1, s2, s3, s4, s5, y6, .pointer (some ⟨lb, 0, none⟩), .int .i64 c, .int .i64 j, y10, y11, y12, y13, y14, y15, y16, y17, y18, y19, y20, y21, y22, y23, y24, y25, y26, y27, s28, s29, s30, s31, s32, s33, s34, s35, s36, s37, s38, s39, s40, s41, s42, s43, s44, s45, s46, s47, s48, s49, s50, s51, s52, s53, s54, s55, s56, s57, s58, s59, s60, s61, s62, s63, s64, s65, s66, s67, s68, s69, y70, y71, y72, y73, y74, y75, y76, y77, y78, y79, y80, y81, y82, y83, y84, y85, y86, y87, y88, y89, y90, y91, y92, y93, y94, y95, y96, y97, y98, y99, y100, y101, y102, y103, y104, y105, y106, y107, y108, y109, y110, y111, y112, y113, y114, y115, y116, y117, y118, y119, y120, y121, y122, y123, y124, y125, y126, y127, y128, y129, y130, y131, y132, y133, y134, y135, y136, y137, y138, y139, y140, y141, y142, y143, y144, y145, y146, y147, y148, y149, y150, y151, y152, y153, y154, y155, y156, y157, y158, y159, y160, y161, y162, y163, y164, y165, y166, y167, y168, y169, y170, y171, y172, y173, y174, y175, y176, y177, y178, y179, y180, y181, y182, y183, y184, y185, y186, y187, y188, y189, y190, y191, y192, y193, y194, y195, y196, y197, y198, y199, y200, y201, y202, y203, y204, y205, y206, y207, y208, y209, y210, y211], []⟩ w'

theorem St.drewN {w3 : World} {lb plen c : Nat} {base : Int} {es : List (Int × Int)} {a : Option Addr} {cap : Nat} {w : World} (h : St w3 lb plen c base es a cap w) (q : Nat) : St w3 lb plen c base es a cap (w.drewN q) :=
  ⟨h.log.drewN q, h.lens, h.len, h.cp, h.p4, h.b0, h.bT, h.bel.trans ⟨rfl, rfl, rfl, Nat.le_refl _, fun _ _ => rfl⟩⟩

end Go.Proofs.Qxb6001495aMods.L
