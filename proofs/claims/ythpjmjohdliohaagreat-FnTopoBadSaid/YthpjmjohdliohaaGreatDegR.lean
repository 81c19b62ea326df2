/- topo.degeneracyOrdering, the region that takes a node out of its list: the last one is laid into its place, and the list is cut by one. -/
import Derived.Test.YthpjmjohdliohaaGreatDegA
import Derived.BigRegion
namespace Go.Proofs.YthpjmjohdliohaaGreat
open Go.RowKit Go.Maps

/-- A region of a code, by its number. -/
def findReg (k : Nat) : Code → Option Code
  | .region i ops b => if i = k then some (.region i ops b) else none
  | .seq a b => match findReg k a with
    | some c => some c
    | none => findReg k b
  | .loop c => findReg k c
  | .block _ c => findReg k c
  | .scope c => findReg k c
  | .cond _ a b => match findReg k a with
    | some c => some c
    | none => findReg k b
  | _ => none

noncomputable def reg50 : Code := ((Tryz.f50.body.bind (findReg 50)).getD .skip)

/-- The region ends, and then K. -/
def OnlyEnd (K : Act → World → Prop) : Exit → Act → World → Prop
  | .normal, a, w => K a w
  | _, _, _ => False

set_option maxRecDepth 100000 in
set_option maxHeartbeats 8000000 in
theorem reg50_wp {c : Code} (hc : reg50 = c) (wr : World) (db mm a3 e nr3 cap3 g3 : Nat) (u3 : Int) (Q0 : Exit → Act → World → Prop) {s0 s1 s2 s3 s4 s5 s6 s7 s8 s9 s10 s11 s13 s14 s15 s16 s17 s18 s19 s20 s21 s23 s25 s26 s27 s28 s29 s30 s31 s32 s33 s34 s35 s36 s37 s38 s39 s40 s41 s42 s43 s44 s45 s46 s47 s48 s49 s50 s51 s52 s53 s54 s55 s56 s57 s58 s59 s60 s61 s62 s63 s64 s65 s66 s67 s68 s69 s70 s71 s72 s73 s74 s75 s76 s77 s78 s79 s80 s81 s82 s83 s84 s85 s86 s87 s88 s89 s90 s91 s92 s93 s94 s95 s96 s97 s98 s99 s100 s101 s102 s103 s104 s105 s106 s107 s108 s109 s110 s111 s112 s113 s114 s115 s116 s117 s118 s119 s120 s121 s122 s123 s124 s125 s126 s127 s128 s129 s130 s131 s132 s133 s134 s135 s136 s137 s138 s139 s140 s141 s142 s143 s144 s145 s146 s147 s148 s149 s150 s151 s152 s153 s154 s155 s156 s157 s158 s159 s160 s161 s162 s163 s164 s165 s166 s167 s168 s169 s170 s171 s172 s173 s174 s175 s176 s177 s178 s179 s180 s181 s182 s183 s184 s185 s186 s187 s188 s189 s190 s191 s192 s193 s194 s195 s196 s197 s198 s199 s200 s201 s202 s203 s204 s205 s206 s207 s208 s209 s210 s211 s212 s213 s214 s215 s216 s217 s218 s219 s220 s221 s222 : Value}
    (hexit : ∀ t170 t171 t172 t173 t174 t175 t176 t177 t178 t179 t180 t181 t182 t183 t184 t185 t186 t187 t188 t189 t190 t191 t192 t193 t194 t195 t196 t197 t198 t199 t200 t201 : Value, Q0 .normal ⟨List.toArray (s0 :: s1 :: s2 :: s3 :: s4 :: s5 :: s6 :: s7 :: s8 :: s9 :: s10 :: s11 :: (.slice (some ⟨db, 0, none⟩) mm mm) :: s13 :: s14 :: s15 :: s16 :: s17 :: s18 :: s19 :: s20 :: s21 :: (.int .i64 ((a3 : Int) + 1)) :: s23 :: (.int .i64 (e : Nat)) :: s25 :: s26 :: s27 :: s28 :: s29 :: s30 :: s31 :: s32 :: s33 :: s34 :: s35 :: s36 :: s37 :: s38 :: s39 :: s40 :: s41 :: s42 :: s43 :: s44 :: s45 :: s46 :: s47 :: s48 :: s49 :: s50 :: s51 :: s52 :: s53 :: s54 :: s55 :: s56 :: s57 :: s58 :: s59 :: s60 :: s61 :: s62 :: s63 :: s64 :: s65 :: s66 :: s67 :: s68 :: s69 :: s70 :: s71 :: s72 :: s73 :: s74 :: s75 :: s76 :: s77 :: s78 :: s79 :: s80 :: s81 :: s82 :: s83 :: s84 :: s85 :: s86 :: s87 :: s88 :: s89 :: s90 :: s91 :: s92 :: s93 :: s94 :: s95 :: s96 :: s97 :: s98 :: s99 :: s100 :: s101 :: s102 :: s103 :: s104 :: s105 :: s106 :: s107 :: s108 :: s109 :: s110 :: s111 :: s112 :: s113 :: s114 :: s115 :: s116 :: s117 :: s118 :: s119 :: s120 :: s121 :: s122 :: s123 :: s124 :: s125 :: s126 :: s127 :: s128 :: s129 :: s130 :: s131 :: s132 :: s133 :: s134 :: s135 :: s136 :: s137 :: s138 :: s139 :: s140 :: s141 :: s142 :: s143 :: s144 :: s145 :: s146 :: s147 :: s148 :: s149 :: s150 :: s151 :: s152 :: s153 :: s154 :: s155 :: s156 :: s157 :: s158 :: s159 :: s160 :: s161 :: s162 :: s163 :: s164 :: s165 :: s166 :: s167 :: s168 :: s169 :: t170 :: t171 :: t172 :: t173 :: t174 :: t175 :: t176 :: t177 :: t178 :: t179 :: t180 :: t181 :: t182 :: t183 :: t184 :: t185 :: t186 :: t187 :: t188 :: t189 :: t190 :: t191 :: t192 :: t193 :: t194 :: t195 :: t196 :: t197 :: t198 :: t199 :: t200 :: t201 :: s202 :: s203 :: s204 :: s205 :: s206 :: s207 :: s208 :: s209 :: s210 :: s211 :: s212 :: s213 :: s214 :: s215 :: s216 :: s217 :: s218 :: s219 :: s220 :: s221 :: s222 :: []), []⟩ ((wr.setCell ⟨g3, e, none⟩ (.iface 127 (.int .i64 u3))).setCell ⟨db, a3 + 1, none⟩ (.slice (some ⟨g3, 0, none⟩) nr3 cap3)).drew)
    (hi3m : a3 + 1 < mm) (hnrb3 : nr3 + 1 ≤ 1000) (hcap3 : nr3 ≤ cap3) (hel : e < nr3 + 1)
    (cc3 : wr.cell? ⟨db, a3 + 1, none⟩ = some (.slice (some ⟨g3, 0, none⟩) (nr3 + 1) cap3)) (xu : wr.cell? ⟨g3, nr3, none⟩ = some (.iface 127 (.int .i64 u3)))
    (xe : ∃ u, wr.cell? ⟨g3, e, none⟩ = some u) (sf : wr.frozen? ⟨g3, e, none⟩ = false)
    (sc4 : (wr.setCell ⟨g3, e, none⟩ (.iface 127 (.int .i64 u3))).cell? ⟨db, a3 + 1, none⟩ = some (.slice (some ⟨g3, 0, none⟩) (nr3 + 1) cap3))
    (sf4 : (wr.setCell ⟨g3, e, none⟩ (.iface 127 (.int .i64 u3))).frozen? ⟨db, a3 + 1, none⟩ = false) :
    Code.wp Tryz.prog c Q0 ⟨List.toArray (s0 :: s1 :: s2 :: s3 :: s4 :: s5 :: s6 :: s7 :: s8 :: s9 :: s10 :: s11 :: (.slice (some ⟨db, 0, none⟩) mm mm) :: s13 :: s14 :: s15 :: s16 :: s17 :: s18 :: s19 :: s20 :: s21 :: (.int .i64 ((a3 : Int) + 1)) :: s23 :: (.int .i64 (e : Nat)) :: s25 :: s26 :: s27 :: s28 :: s29 :: s30 :: s31 :: s32 :: s33 :: s34 :: s35 :: s36 :: s37 :: s38 :: s39 :: s40 :: s41 :: s42 :: s43 :: s44 :: s45 :: s46 :: s47 :: s48 :: s49 :: s50 :: s51 :: s52 :: s53 :: s54 :: s55 :: s56 :: s57 :: s58 :: s59 :: s60 :: s61 :: s62 :: s63 :: s64 :: s65 :: s66 :: s67 :: s68 :: s69 :: s70 :: s71 :: s72 :: s73 :: s74 :: s75 :: s76 :: s77 :: s78 :: s79 :: s80 :: s81 :: s82 :: s83 :: s84 :: s85 :: s86 :: s87 :: s88 :: s89 :: s90 :: s91 :: s92 :: s93 :: s94 :: s95 :: s96 :: s97 :: s98 :: s99 :: s100 :: s101 :: s102 :: s103 :: s104 :: s105 :: s106 :: s107 :: s108 :: s109 :: s110 :: s111 :: s112 :: s113 :: s114 :: s115 :: s116 :: s117 :: s118 :: s119 :: s120 :: s121 :: s122 :: s123 :: s124 :: s125 :: s126 :: s127 :: s128 :: s129 :: s130 :: s131 :: s132 :: s133 :: s134 :: s135 :: s136 :: s137 :: s138 :: s139 :: s140 :: s141 :: s142 :: s143 :: s144 :: s145 :: s146 :: s147 :: s148 :: s149 :: s150 :: s151 :: s152 :: s153 :: s154 :: s155 :: s156 :: s157 :: s158 :: s159 :: s160 :: s161 :: s162 :: s163 :: s164 :: s165 :: s166 :: s167 :: s168 :: s169 :: s170 :: s171 :: s172 :: s173 :: s174 :: s175 :: s176 :: s177 :: s178 :: s179 :: s180 :: s181 :: s182 :: s183 :: s184 :: s185 :: s186 :: s187 :: s188 :: s189 :: s190 :: s191 :: s192 :: s193 :: s194 :: s195 :: s196 :: s197 :: s198 :: s199 :: s200 :: s201 :: s202 :: s203 :: s204 :: s205 :: s206 :: s207 :: s208 :: s209 :: s210 :: s211 :: s212 :: s213 :: s214 :: s215 :: s216 :: s217 :: s218 :: s219 :: s220 :: s221 :: s222 :: []), []⟩ wr := by
  rw [← hc]
  clear hc
  refine Code.wp_mono (Q := OnlyEnd (Q0 .normal)) (fun e a w h => ?_) ?_
  · cases e <;> first | exact (h : False).elim | exact h
  conv => arg 2; whnf
  have hexit := Lib.hid hexit
  obtain ⟨xe0, xe⟩ := xe
  have hwr3 : IntKind.i64.wrap (nr3 : Int) = nr3 := by rw [IntKind.wrap_i64]; omega
  have hlt3 : (nr3 : Int) < (nr3 : Int) + 1 := by omega
  have sc3 : (wr.drew.setCell ⟨g3, e, none⟩ (.iface 127 (.int .i64 u3))).cell? ⟨db, a3 + 1, none⟩ = some (.slice (some ⟨g3, 0, none⟩) (nr3 + 1) cap3) := sc4
  have sfr : (wr.drew.setCell ⟨g3, e, none⟩ (.iface 127 (.int .i64 u3))).frozen? ⟨db, a3 + 1, none⟩ = false := sf4
  have hi0 : 0 ≤ (a3 : Int) + 1 ∧ (a3 : Int) + 1 < (mm : Int) := by omega
  go_big_region
  all_goals exact hexit.out _ _ _ _ _ _ _ _ _ _ _ _ _ _ _ _ _ _ _ _ _ _ _ _ _ _ _ _ _ _ _ _
end Go.Proofs.YthpjmjohdliohaaGreat
