/-
  LawS0034AModel: CheckLocks' switch, a kind each.
-/
import Derived.Test.YbulkriACheckAt
import Derived.Test.YbulkriASpansA
import Derived.Deep.CutRange
namespace Go.Proofs.Ybulkri.A
open Go.RowKit
set_option linter.unusedVariables false
set_option linter.unusedSimpArgs false

/-- a block of a function's code -/
def blockOf (n : Nat) : Code → Option Code
  | .block k c => bif Nat.beq k n then some (.block k c) else blockOf n c
  | .seq a b => match blockOf n a with
    | some c => some c
    | none => blockOf n b
  | .cond _ a b => match blockOf n a with
    | some c => some c
    | none => blockOf n b
  | .loop c => blockOf n c
  | .scope c => blockOf n c
  | _ => none
noncomputable def blk6 (n : Nat) : Code := ((Yba.f6.body.bind (blockOf n)).getD .skip)
noncomputable def reg6 (n : Nat) : Code := ((Yba.f6.body.bind (regionOf n)).getD .skip)

set_option maxHeartbeats 8000000 in
set_option maxRecDepth 100000 in
theorem check_1 {w w2 : World} {gm gsh gex gu nT nX : Nat} {L : List (Nat × Nat)} {tc : Array Value} {m : Nat → Nat → Int} {u : Nat → Bool} {f : Nat → Int} {W2 : World} {Bo Bb t x q : Nat} {v : Int}
    (hpl : Pl w.heap.size w2.heap.size w2.heap.size gm (gm + 1) gsh (gsh + 1) gex (gex + 1) gu) (htab : Tab L.length nT nX (txL L) (itL L)) (hT : nT ≤ 4) (hX : nX ≤ 3) (ht : t < nT) (hx : x < nX) (hq1 : q < L.length) (hLl : L.length ≤ 4096) (Hqt : Hid (txL L q = t)) (Hqx : Hid (itL L q = x)) (Hv' : Hid (m t x = v)) (hvr : v = 0 ∨ v = 1 ∨ v = 2 ∨ v = 3)
    (Hcall : Hid (∀ (W' : World) (u' : Nat → Bool) (z : Int), (z = 0 ∨ z = 1 ∨ z = 2 ∨ z = 3) → CKR w w2 w.heap.size w2.heap.size w2.heap.size gm (gm + 1) gsh (gsh + 1) gex (gex + 1) gu nT nX L tc m u' f W' → Calls Yba.prog 15 #[.int .i64 q, .int .u8 z, .pointer (some ⟨w2.heap.size, 0, none⟩), .pointer (some ⟨gm + 1, 0, none⟩), .pointer (some ⟨gsh + 1, 0, none⟩), .pointer (some ⟨gex + 1, 0, none⟩)] W' fun e w' => (∃ z, e = .returned z) ∧ CKR w w2 w.heap.size w2.heap.size w2.heap.size gm (gm + 1) gsh (gsh + 1) gex (gex + 1) gu nT nX L tc (put m t x z) u' f w' ∧ ∀ g e cur, gu < g → Blk W' g e cur → Blk w' g e cur))
    (hm2 : CKR w w2 w.heap.size w2.heap.size w2.heap.size gm (gm + 1) gsh (gsh + 1) gex (gex + 1) gu nT nX L tc m u f W2) (ho2 : Blk W2 Bo 34 #[.int .u8 1, .int .i64 (t : Int), .int .i64 (x : Int)]) (hb2 : Blk W2 Bb 67 (bcells fun _ => false)) (hBb : gu < Bb) (hBo : gu < Bo) (hBob : Bo < Bb)
    {K : Act → World → Prop} {Q : Exit → Act → World → Prop} {s0 s1 s2 s3 s4 s5 s6 s11 s13 s14 s18 s19 s20 s21 s22 s23 s24 s25 s26 s27 s28 s29 s30 s31 s32 s33 s34 s35 s36 s37 s38 s39 s40 s41 s42 s43 s44 s45 s46 s47 s48 s49 s50 s51 s52 s53 s54 s55 s56 s57 s58 s59 s60 s61 s62 s63 s64 s65 s66 s67 s68 s69 s70 s71 s72 s73 s74 s75 s76 s77 s78 s79 s80 s81 s82 s83 s84 s85 s86 s87 s88 s89 s90 s91 s92 s93 s94 s95 s96 s97 s98 s99 s100 s101 s103 s104 s105 s106 s107 s108 s109 s110 s111 s112 s113 s114 s115 s116 s117 s118 s119 s120 s121 s122 s123 s124 s125 s126 s127 s128 s129 s130 s131 s132 s133 s134 s135 s136 s137 s138 s139 s140 s141 s142 s143 s144 s145 s146 s147 s148 s149 s150 s151 s152 s153 s154 s155 s156 s157 s158 s159 s160 s161 s162 s163 s164 s165 s166 s167 s168 s169 s170 s171 s172 s173 s174 s175 s176 s177 s178 s179 s180 s181 s182 s183 s184 s185 s186 s187 s188 s189 s190 s191 s192 s193 s194 s195 s196 s197 s198 : Value} {rest : List Value}
    (HQ : Hid (∀ (wc : World) (v18 v19 v103 v104 v105 v106 v107 v108 v109 v110 v111 v112 v113 v114 v115 v116 v117 v118 v119 v120 v121 v122 v123 v124 v125 v126 v127 v128 v129 v130 v131 v132 v133 v134 v135 v136 v137 v138 v139 v140 v141 v142 v143 v144 v145 v146 v147 v148 v149 v150 v151 v152 v153 v154 v155 v156 v157 v158 v159 v160 v161 v162 v163 v164 v165 v166 v167 v168 v169 v170 v171 v172 v173 v174 v175 v176 v177 v178 v179 v180 v181 v182 v183 v184 v185 v186 v187 v188 v189 v190 v191 v192 v193 v194 v195 v196 v197 v198 : Value), CKR w w2 w.heap.size w2.heap.size w2.heap.size gm (gm + 1) gsh (gsh + 1) gex (gex + 1) gu nT nX L tc (put m t x (after 1 (m t x))) (if (1 : Int) = 7 then putB u t true else u) f wc → Blk wc Bb 67 (bcells (bits nT ⟨m, u, f⟩ 1 t x)) → K ⟨(s0 :: s1 :: s2 :: s3 :: s4 :: s5 :: s6 :: (.pointer (some ⟨gsh + 1, 0, none⟩)) :: (.pointer (some ⟨gex + 1, 0, none⟩)) :: (.slice (some ⟨gu, 0, none⟩) nT nT) :: (.func (.func 15) #[] #[.pointer (some ⟨w2.heap.size, 0, none⟩), .pointer (some ⟨gm + 1, 0, none⟩), .pointer (some ⟨gsh + 1, 0, none⟩), .pointer (some ⟨gex + 1, 0, none⟩)]) :: s11 :: (.pointer (some ⟨Bo, 0, none⟩)) :: s13 :: s14 :: (.int .i64 (q : Int)) :: (.int .u8 v) :: (.pointer (some ⟨Bb, 0, none⟩)) :: v18 :: v19 :: s20 :: s21 :: s22 :: s23 :: s24 :: s25 :: s26 :: s27 :: s28 :: s29 :: s30 :: s31 :: s32 :: s33 :: s34 :: s35 :: s36 :: s37 :: s38 :: s39 :: s40 :: s41 :: s42 :: s43 :: s44 :: s45 :: s46 :: s47 :: s48 :: s49 :: s50 :: s51 :: s52 :: s53 :: s54 :: s55 :: s56 :: s57 :: s58 :: s59 :: s60 :: s61 :: s62 :: s63 :: s64 :: s65 :: s66 :: s67 :: s68 :: s69 :: s70 :: s71 :: s72 :: s73 :: s74 :: s75 :: s76 :: s77 :: s78 :: s79 :: s80 :: s81 :: s82 :: s83 :: s84 :: s85 :: s86 :: s87 :: s88 :: s89 :: s90 :: s91 :: s92 :: s93 :: s94 :: s95 :: s96 :: s97 :: s98 :: s99 :: s100 :: s101 :: (.int .u8 1) :: v103 :: v104 :: v105 :: v106 :: v107 :: v108 :: v109 :: v110 :: v111 :: v112 :: v113 :: v114 :: v115 :: v116 :: v117 :: v118 :: v119 :: v120 :: v121 :: v122 :: v123 :: v124 :: v125 :: v126 :: v127 :: v128 :: v129 :: v130 :: v131 :: v132 :: v133 :: v134 :: v135 :: v136 :: v137 :: v138 :: v139 :: v140 :: v141 :: v142 :: v143 :: v144 :: v145 :: v146 :: v147 :: v148 :: v149 :: v150 :: v151 :: v152 :: v153 :: v154 :: v155 :: v156 :: v157 :: v158 :: v159 :: v160 :: v161 :: v162 :: v163 :: v164 :: v165 :: v166 :: v167 :: v168 :: v169 :: v170 :: v171 :: v172 :: v173 :: v174 :: v175 :: v176 :: v177 :: v178 :: v179 :: v180 :: v181 :: v182 :: v183 :: v184 :: v185 :: v186 :: v187 :: v188 :: v189 :: v190 :: v191 :: v192 :: v193 :: v194 :: v195 :: v196 :: v197 :: v198 :: rest).toArray, []⟩ wc)) :
    Code.wp Yba.prog (blk6 6) (Exit.then K Q) ⟨(s0 :: s1 :: s2 :: s3 :: s4 :: s5 :: s6 :: (.pointer (some ⟨gsh + 1, 0, none⟩)) :: (.pointer (some ⟨gex + 1, 0, none⟩)) :: (.slice (some ⟨gu, 0, none⟩) nT nT) :: (.func (.func 15) #[] #[.pointer (some ⟨w2.heap.size, 0, none⟩), .pointer (some ⟨gm + 1, 0, none⟩), .pointer (some ⟨gsh + 1, 0, none⟩), .pointer (some ⟨gex + 1, 0, none⟩)]) :: s11 :: (.pointer (some ⟨Bo, 0, none⟩)) :: s13 :: s14 :: (.int .i64 (q : Int)) :: (.int .u8 v) :: (.pointer (some ⟨Bb, 0, none⟩)) :: s18 :: s19 :: s20 :: s21 :: s22 :: s23 :: s24 :: s25 :: s26 :: s27 :: s28 :: s29 :: s30 :: s31 :: s32 :: s33 :: s34 :: s35 :: s36 :: s37 :: s38 :: s39 :: s40 :: s41 :: s42 :: s43 :: s44 :: s45 :: s46 :: s47 :: s48 :: s49 :: s50 :: s51 :: s52 :: s53 :: s54 :: s55 :: s56 :: s57 :: s58 :: s59 :: s60 :: s61 :: s62 :: s63 :: s64 :: s65 :: s66 :: s67 :: s68 :: s69 :: s70 :: s71 :: s72 :: s73 :: s74 :: s75 :: s76 :: s77 :: s78 :: s79 :: s80 :: s81 :: s82 :: s83 :: s84 :: s85 :: s86 :: s87 :: s88 :: s89 :: s90 :: s91 :: s92 :: s93 :: s94 :: s95 :: s96 :: s97 :: s98 :: s99 :: s100 :: s101 :: (.int .u8 1) :: s103 :: s104 :: s105 :: s106 :: s107 :: s108 :: s109 :: s110 :: s111 :: s112 :: s113 :: s114 :: s115 :: s116 :: s117 :: s118 :: s119 :: s120 :: s121 :: s122 :: s123 :: s124 :: s125 :: s126 :: s127 :: s128 :: s129 :: s130 :: s131 :: s132 :: s133 :: s134 :: s135 :: s136 :: s137 :: s138 :: s139 :: s140 :: s141 :: s142 :: s143 :: s144 :: s145 :: s146 :: s147 :: s148 :: s149 :: s150 :: s151 :: s152 :: s153 :: s154 :: s155 :: s156 :: s157 :: s158 :: s159 :: s160 :: s161 :: s162 :: s163 :: s164 :: s165 :: s166 :: s167 :: s168 :: s169 :: s170 :: s171 :: s172 :: s173 :: s174 :: s175 :: s176 :: s177 :: s178 :: s179 :: s180 :: s181 :: s182 :: s183 :: s184 :: s185 :: s186 :: s187 :: s188 :: s189 :: s190 :: s191 :: s192 :: s193 :: s194 :: s195 :: s196 :: s197 :: s198 :: rest).toArray, []⟩ W2 := by
  conv => arg 2; whnf
  have k1 := ho2.cellOf (j := 1) rfl
  have k2 := ho2.cellOf (j := 2) rfl
  have bf1 := hb2.frozen 1
  have bc1 := hb2.cellOf (bcells_get _ (t := 1) (by omega))
  have bf2 := hb2.frozen 2
  have bc2 := hb2.cellOf (bcells_get _ (t := 2) (by omega))
  have bf3 := hb2.frozen 3
  have bc3 := hb2.cellOf (bcells_get _ (t := 3) (by omega))
  have bf4 := hb2.frozen 4
  have bc4 := hb2.cellOf (bcells_get _ (t := 4) (by omega))
  have bf5 := hb2.frozen 5
  have bc5 := hb2.cellOf (bcells_get _ (t := 5) (by omega))
  have cu := hm2.un.cellOf (bools_get u ht)
  have fu := hm2.un.frozen t
  have hguB : gu ≠ Bb := by omega
  obtain ⟨uv, huv⟩ : ∃ uv, u t = uv := ⟨_, rfl⟩
  have Huv : Hid (u t = uv) := huv
  rw [huv] at cu
  clear huv
  clear Hcall
  rcases hvr with rfl | rfl | rfl | rfl
  · go_wp2_with fail
    exact HQ.out _ _ _ _ _ _ _ _ _ _ _ _ _ _ _ _ _ _ _ _ _ _ _ _ _ _ _ _ _ _ _ _ _ _ _ _ _ _ _ _ _ _ _ _ _ _ _ _ _ _ _ _ _ _ _ _ _ _ _ _ _ _ _ _ _ _ _ _ _ _ _ _ _ _ _ _ _ _ _ _ _ _ _ _ _ _ _ _ _ _ _ _ _ _ _ _ _ _ _ (by rw [put_self m t x 1 (by simp [after]), if_neg (by decide)]; exact hm2.setO hpl Bb 1 hBb _) (blkCongrB (blkSetB hb2 1 _) fun r => by rw [← bits_1]; simp [Hv'.out])
  · go_wp2_with fail
    exact HQ.out _ _ _ _ _ _ _ _ _ _ _ _ _ _ _ _ _ _ _ _ _ _ _ _ _ _ _ _ _ _ _ _ _ _ _ _ _ _ _ _ _ _ _ _ _ _ _ _ _ _ _ _ _ _ _ _ _ _ _ _ _ _ _ _ _ _ _ _ _ _ _ _ _ _ _ _ _ _ _ _ _ _ _ _ _ _ _ _ _ _ _ _ _ _ _ _ _ _ _ (by rw [put_self m t x 1 (by simp [after]), if_neg (by decide)]; exact hm2.setO hpl Bb 1 hBb _) (blkCongrB (blkSetB hb2 1 _) fun r => by rw [← bits_1]; simp [Hv'.out])
  · go_wp2_with fail
    exact HQ.out _ _ _ _ _ _ _ _ _ _ _ _ _ _ _ _ _ _ _ _ _ _ _ _ _ _ _ _ _ _ _ _ _ _ _ _ _ _ _ _ _ _ _ _ _ _ _ _ _ _ _ _ _ _ _ _ _ _ _ _ _ _ _ _ _ _ _ _ _ _ _ _ _ _ _ _ _ _ _ _ _ _ _ _ _ _ _ _ _ _ _ _ _ _ _ _ _ _ _ (by rw [put_self m t x 1 (by simp [after]), if_neg (by decide)]; exact hm2.setO hpl Bb 1 hBb _) (blkCongrB (blkSetB hb2 1 _) fun r => by rw [← bits_1]; simp [Hv'.out])
  · go_wp2_with fail
    exact HQ.out _ _ _ _ _ _ _ _ _ _ _ _ _ _ _ _ _ _ _ _ _ _ _ _ _ _ _ _ _ _ _ _ _ _ _ _ _ _ _ _ _ _ _ _ _ _ _ _ _ _ _ _ _ _ _ _ _ _ _ _ _ _ _ _ _ _ _ _ _ _ _ _ _ _ _ _ _ _ _ _ _ _ _ _ _ _ _ _ _ _ _ _ _ _ _ _ _ _ _ (by rw [put_self m t x 1 (by simp [after]), if_neg (by decide)]; exact hm2.setO hpl Bb 1 hBb _) (blkCongrB (blkSetB hb2 1 _) fun r => by rw [← bits_1]; simp [Hv'.out])

set_option maxHeartbeats 8000000 in
set_option maxRecDepth 100000 in
theorem check_2 {w w2 : World} {gm gsh gex gu nT nX : Nat} {L : List (Nat × Nat)} {tc : Array Value} {m : Nat → Nat → Int} {u : Nat → Bool} {f : Nat → Int} {W2 : World} {Bo Bb t x q : Nat} {v : Int}
    (hpl : Pl w.heap.size w2.heap.size w2.heap.size gm (gm + 1) gsh (gsh + 1) gex (gex + 1) gu) (htab : Tab L.length nT nX (txL L) (itL L)) (hT : nT ≤ 4) (hX : nX ≤ 3) (ht : t < nT) (hx : x < nX) (hq1 : q < L.length) (hLl : L.length ≤ 4096) (Hqt : Hid (txL L q = t)) (Hqx : Hid (itL L q = x)) (Hv' : Hid (m t x = v)) (hvr : v = 0 ∨ v = 1 ∨ v = 2 ∨ v = 3)
    (Hcall : Hid (∀ (W' : World) (u' : Nat → Bool) (z : Int), (z = 0 ∨ z = 1 ∨ z = 2 ∨ z = 3) → CKR w w2 w.heap.size w2.heap.size w2.heap.size gm (gm + 1) gsh (gsh + 1) gex (gex + 1) gu nT nX L tc m u' f W' → Calls Yba.prog 15 #[.int .i64 q, .int .u8 z, .pointer (some ⟨w2.heap.size, 0, none⟩), .pointer (some ⟨gm + 1, 0, none⟩), .pointer (some ⟨gsh + 1, 0, none⟩), .pointer (some ⟨gex + 1, 0, none⟩)] W' fun e w' => (∃ z, e = .returned z) ∧ CKR w w2 w.heap.size w2.heap.size w2.heap.size gm (gm + 1) gsh (gsh + 1) gex (gex + 1) gu nT nX L tc (put m t x z) u' f w' ∧ ∀ g e cur, gu < g → Blk W' g e cur → Blk w' g e cur))
    (hm2 : CKR w w2 w.heap.size w2.heap.size w2.heap.size gm (gm + 1) gsh (gsh + 1) gex (gex + 1) gu nT nX L tc m u f W2) (ho2 : Blk W2 Bo 34 #[.int .u8 2, .int .i64 (t : Int), .int .i64 (x : Int)]) (hb2 : Blk W2 Bb 67 (bcells fun _ => false)) (hBb : gu < Bb) (hBo : gu < Bo) (hBob : Bo < Bb)
    {K : Act → World → Prop} {Q : Exit → Act → World → Prop} {s0 s1 s2 s3 s4 s5 s6 s11 s13 s14 s18 s19 s20 s21 s22 s23 s24 s25 s26 s27 s28 s29 s30 s31 s32 s33 s34 s35 s36 s37 s38 s39 s40 s41 s42 s43 s44 s45 s46 s47 s48 s49 s50 s51 s52 s53 s54 s55 s56 s57 s58 s59 s60 s61 s62 s63 s64 s65 s66 s67 s68 s69 s70 s71 s72 s73 s74 s75 s76 s77 s78 s79 s80 s81 s82 s83 s84 s85 s86 s87 s88 s89 s90 s91 s92 s93 s94 s95 s96 s97 s98 s99 s100 s101 s103 s104 s105 s106 s107 s108 s109 s110 s111 s112 s113 s114 s115 s116 s117 s118 s119 s120 s121 s122 s123 s124 s125 s126 s127 s128 s129 s130 s131 s132 s133 s134 s135 s136 s137 s138 s139 s140 s141 s142 s143 s144 s145 s146 s147 s148 s149 s150 s151 s152 s153 s154 s155 s156 s157 s158 s159 s160 s161 s162 s163 s164 s165 s166 s167 s168 s169 s170 s171 s172 s173 s174 s175 s176 s177 s178 s179 s180 s181 s182 s183 s184 s185 s186 s187 s188 s189 s190 s191 s192 s193 s194 s195 s196 s197 s198 : Value} {rest : List Value}
    (HQ : Hid (∀ (wc : World) (v18 v19 v103 v104 v105 v106 v107 v108 v109 v110 v111 v112 v113 v114 v115 v116 v117 v118 v119 v120 v121 v122 v123 v124 v125 v126 v127 v128 v129 v130 v131 v132 v133 v134 v135 v136 v137 v138 v139 v140 v141 v142 v143 v144 v145 v146 v147 v148 v149 v150 v151 v152 v153 v154 v155 v156 v157 v158 v159 v160 v161 v162 v163 v164 v165 v166 v167 v168 v169 v170 v171 v172 v173 v174 v175 v176 v177 v178 v179 v180 v181 v182 v183 v184 v185 v186 v187 v188 v189 v190 v191 v192 v193 v194 v195 v196 v197 v198 : Value), CKR w w2 w.heap.size w2.heap.size w2.heap.size gm (gm + 1) gsh (gsh + 1) gex (gex + 1) gu nT nX L tc (put m t x (after 2 (m t x))) (if (2 : Int) = 7 then putB u t true else u) f wc → Blk wc Bb 67 (bcells (bits nT ⟨m, u, f⟩ 2 t x)) → K ⟨(s0 :: s1 :: s2 :: s3 :: s4 :: s5 :: s6 :: (.pointer (some ⟨gsh + 1, 0, none⟩)) :: (.pointer (some ⟨gex + 1, 0, none⟩)) :: (.slice (some ⟨gu, 0, none⟩) nT nT) :: (.func (.func 15) #[] #[.pointer (some ⟨w2.heap.size, 0, none⟩), .pointer (some ⟨gm + 1, 0, none⟩), .pointer (some ⟨gsh + 1, 0, none⟩), .pointer (some ⟨gex + 1, 0, none⟩)]) :: s11 :: (.pointer (some ⟨Bo, 0, none⟩)) :: s13 :: s14 :: (.int .i64 (q : Int)) :: (.int .u8 v) :: (.pointer (some ⟨Bb, 0, none⟩)) :: v18 :: v19 :: s20 :: s21 :: s22 :: s23 :: s24 :: s25 :: s26 :: s27 :: s28 :: s29 :: s30 :: s31 :: s32 :: s33 :: s34 :: s35 :: s36 :: s37 :: s38 :: s39 :: s40 :: s41 :: s42 :: s43 :: s44 :: s45 :: s46 :: s47 :: s48 :: s49 :: s50 :: s51 :: s52 :: s53 :: s54 :: s55 :: s56 :: s57 :: s58 :: s59 :: s60 :: s61 :: s62 :: s63 :: s64 :: s65 :: s66 :: s67 :: s68 :: s69 :: s70 :: s71 :: s72 :: s73 :: s74 :: s75 :: s76 :: s77 :: s78 :: s79 :: s80 :: s81 :: s82 :: s83 :: s84 :: s85 :: s86 :: s87 :: s88 :: s89 :: s90 :: s91 :: s92 :: s93 :: s94 :: s95 :: s96 :: s97 :: s98 :: s99 :: s100 :: s101 :: (.int .u8 2) :: v103 :: v104 :: v105 :: v106 :: v107 :: v108 :: v109 :: v110 :: v111 :: v112 :: v113 :: v114 :: v115 :: v116 :: v117 :: v118 :: v119 :: v120 :: v121 :: v122 :: v123 :: v124 :: v125 :: v126 :: v127 :: v128 :: v129 :: v130 :: v131 :: v132 :: v133 :: v134 :: v135 :: v136 :: v137 :: v138 :: v139 :: v140 :: v141 :: v142 :: v143 :: v144 :: v145 :: v146 :: v147 :: v148 :: v149 :: v150 :: v151 :: v152 :: v153 :: v154 :: v155 :: v156 :: v157 :: v158 :: v159 :: v160 :: v161 :: v162 :: v163 :: v164 :: v165 :: v166 :: v167 :: v168 :: v169 :: v170 :: v171 :: v172 :: v173 :: v174 :: v175 :: v176 :: v177 :: v178 :: v179 :: v180 :: v181 :: v182 :: v183 :: v184 :: v185 :: v186 :: v187 :: v188 :: v189 :: v190 :: v191 :: v192 :: v193 :: v194 :: v195 :: v196 :: v197 :: v198 :: rest).toArray, []⟩ wc)) :
    Code.wp Yba.prog (blk6 6) (Exit.then K Q) ⟨(s0 :: s1 :: s2 :: s3 :: s4 :: s5 :: s6 :: (.pointer (some ⟨gsh + 1, 0, none⟩)) :: (.pointer (some ⟨gex + 1, 0, none⟩)) :: (.slice (some ⟨gu, 0, none⟩) nT nT) :: (.func (.func 15) #[] #[.pointer (some ⟨w2.heap.size, 0, none⟩), .pointer (some ⟨gm + 1, 0, none⟩), .pointer (some ⟨gsh + 1, 0, none⟩), .pointer (some ⟨gex + 1, 0, none⟩)]) :: s11 :: (.pointer (some ⟨Bo, 0, none⟩)) :: s13 :: s14 :: (.int .i64 (q : Int)) :: (.int .u8 v) :: (.pointer (some ⟨Bb, 0, none⟩)) :: s18 :: s19 :: s20 :: s21 :: s22 :: s23 :: s24 :: s25 :: s26 :: s27 :: s28 :: s29 :: s30 :: s31 :: s32 :: s33 :: s34 :: s35 :: s36 :: s37 :: s38 :: s39 :: s40 :: s41 :: s42 :: s43 :: s44 :: s45 :: s46 :: s47 :: s48 :: s49 :: s50 :: s51 :: s52 :: s53 :: s54 :: s55 :: s56 :: s57 :: s58 :: s59 :: s60 :: s61 :: s62 :: s63 :: s64 :: s65 :: s66 :: s67 :: s68 :: s69 :: s70 :: s71 :: s72 :: s73 :: s74 :: s75 :: s76 :: s77 :: s78 :: s79 :: s80 :: s81 :: s82 :: s83 :: s84 :: s85 :: s86 :: s87 :: s88 :: s89 :: s90 :: s91 :: s92 :: s93 :: s94 :: s95 :: s96 :: s97 :: s98 :: s99 :: s100 :: s101 :: (.int .u8 2) :: s103 :: s104 :: s105 :: s106 :: s107 :: s108 :: s109 :: s110 :: s111 :: s112 :: s113 :: s114 :: s115 :: s116 :: s117 :: s118 :: s119 :: s120 :: s121 :: s122 :: s123 :: s124 :: s125 :: s126 :: s127 :: s128 :: s129 :: s130 :: s131 :: s132 :: s133 :: s134 :: s135 :: s136 :: s137 :: s138 :: s139 :: s140 :: s141 :: s142 :: s143 :: s144 :: s145 :: s146 :: s147 :: s148 :: s149 :: s150 :: s151 :: s152 :: s153 :: s154 :: s155 :: s156 :: s157 :: s158 :: s159 :: s160 :: s161 :: s162 :: s163 :: s164 :: s165 :: s166 :: s167 :: s168 :: s169 :: s170 :: s171 :: s172 :: s173 :: s174 :: s175 :: s176 :: s177 :: s178 :: s179 :: s180 :: s181 :: s182 :: s183 :: s184 :: s185 :: s186 :: s187 :: s188 :: s189 :: s190 :: s191 :: s192 :: s193 :: s194 :: s195 :: s196 :: s197 :: s198 :: rest).toArray, []⟩ W2 := by
  conv => arg 2; whnf
  have k1 := ho2.cellOf (j := 1) rfl
  have k2 := ho2.cellOf (j := 2) rfl
  have bf1 := hb2.frozen 1
  have bc1 := hb2.cellOf (bcells_get _ (t := 1) (by omega))
  have bf2 := hb2.frozen 2
  have bc2 := hb2.cellOf (bcells_get _ (t := 2) (by omega))
  have bf3 := hb2.frozen 3
  have bc3 := hb2.cellOf (bcells_get _ (t := 3) (by omega))
  have bf4 := hb2.frozen 4
  have bc4 := hb2.cellOf (bcells_get _ (t := 4) (by omega))
  have bf5 := hb2.frozen 5
  have bc5 := hb2.cellOf (bcells_get _ (t := 5) (by omega))
  have cu := hm2.un.cellOf (bools_get u ht)
  have fu := hm2.un.frozen t
  have hguB : gu ≠ Bb := by omega
  obtain ⟨uv, huv⟩ : ∃ uv, u t = uv := ⟨_, rfl⟩
  have Huv : Hid (u t = uv) := huv
  rw [huv] at cu
  clear huv
  clear Hcall
  rcases hvr with rfl | rfl | rfl | rfl
  · go_wp2_with fail
    exact HQ.out _ _ _ _ _ _ _ _ _ _ _ _ _ _ _ _ _ _ _ _ _ _ _ _ _ _ _ _ _ _ _ _ _ _ _ _ _ _ _ _ _ _ _ _ _ _ _ _ _ _ _ _ _ _ _ _ _ _ _ _ _ _ _ _ _ _ _ _ _ _ _ _ _ _ _ _ _ _ _ _ _ _ _ _ _ _ _ _ _ _ _ _ _ _ _ _ _ _ _ (by rw [put_self m t x 2 (by simp [after]), if_neg (by decide)]; exact hm2.setO hpl Bb 1 hBb _) (blkCongrB (blkSetB hb2 1 _) fun r => by rw [← bits_2]; simp [Hv'.out])
  · go_wp2_with fail
    exact HQ.out _ _ _ _ _ _ _ _ _ _ _ _ _ _ _ _ _ _ _ _ _ _ _ _ _ _ _ _ _ _ _ _ _ _ _ _ _ _ _ _ _ _ _ _ _ _ _ _ _ _ _ _ _ _ _ _ _ _ _ _ _ _ _ _ _ _ _ _ _ _ _ _ _ _ _ _ _ _ _ _ _ _ _ _ _ _ _ _ _ _ _ _ _ _ _ _ _ _ _ (by rw [put_self m t x 2 (by simp [after]), if_neg (by decide)]; exact hm2.setO hpl Bb 1 hBb _) (blkCongrB (blkSetB hb2 1 _) fun r => by rw [← bits_2]; simp [Hv'.out])
  · go_wp2_with fail
    exact HQ.out _ _ _ _ _ _ _ _ _ _ _ _ _ _ _ _ _ _ _ _ _ _ _ _ _ _ _ _ _ _ _ _ _ _ _ _ _ _ _ _ _ _ _ _ _ _ _ _ _ _ _ _ _ _ _ _ _ _ _ _ _ _ _ _ _ _ _ _ _ _ _ _ _ _ _ _ _ _ _ _ _ _ _ _ _ _ _ _ _ _ _ _ _ _ _ _ _ _ _ (by rw [put_self m t x 2 (by simp [after]), if_neg (by decide)]; exact hm2.setO hpl Bb 1 hBb _) (blkCongrB (blkSetB hb2 1 _) fun r => by rw [← bits_2]; simp [Hv'.out])
  · go_wp2_with fail
    exact HQ.out _ _ _ _ _ _ _ _ _ _ _ _ _ _ _ _ _ _ _ _ _ _ _ _ _ _ _ _ _ _ _ _ _ _ _ _ _ _ _ _ _ _ _ _ _ _ _ _ _ _ _ _ _ _ _ _ _ _ _ _ _ _ _ _ _ _ _ _ _ _ _ _ _ _ _ _ _ _ _ _ _ _ _ _ _ _ _ _ _ _ _ _ _ _ _ _ _ _ _ (by rw [put_self m t x 2 (by simp [after]), if_neg (by decide)]; exact hm2.setO hpl Bb 1 hBb _) (blkCongrB (blkSetB hb2 1 _) fun r => by rw [← bits_2]; simp [Hv'.out])

set_option maxHeartbeats 8000000 in
set_option maxRecDepth 100000 in
theorem check_5 {w w2 : World} {gm gsh gex gu nT nX : Nat} {L : List (Nat × Nat)} {tc : Array Value} {m : Nat → Nat → Int} {u : Nat → Bool} {f : Nat → Int} {W2 : World} {Bo Bb t x q : Nat} {v : Int}
    (hpl : Pl w.heap.size w2.heap.size w2.heap.size gm (gm + 1) gsh (gsh + 1) gex (gex + 1) gu) (htab : Tab L.length nT nX (txL L) (itL L)) (hT : nT ≤ 4) (hX : nX ≤ 3) (ht : t < nT) (hx : x < nX) (hq1 : q < L.length) (hLl : L.length ≤ 4096) (Hqt : Hid (txL L q = t)) (Hqx : Hid (itL L q = x)) (Hv' : Hid (m t x = v)) (hvr : v = 0 ∨ v = 1 ∨ v = 2 ∨ v = 3)
    (Hcall : Hid (∀ (W' : World) (u' : Nat → Bool) (z : Int), (z = 0 ∨ z = 1 ∨ z = 2 ∨ z = 3) → CKR w w2 w.heap.size w2.heap.size w2.heap.size gm (gm + 1) gsh (gsh + 1) gex (gex + 1) gu nT nX L tc m u' f W' → Calls Yba.prog 15 #[.int .i64 q, .int .u8 z, .pointer (some ⟨w2.heap.size, 0, none⟩), .pointer (some ⟨gm + 1, 0, none⟩), .pointer (some ⟨gsh + 1, 0, none⟩), .pointer (some ⟨gex + 1, 0, none⟩)] W' fun e w' => (∃ z, e = .returned z) ∧ CKR w w2 w.heap.size w2.heap.size w2.heap.size gm (gm + 1) gsh (gsh + 1) gex (gex + 1) gu nT nX L tc (put m t x z) u' f w' ∧ ∀ g e cur, gu < g → Blk W' g e cur → Blk w' g e cur))
    (hm2 : CKR w w2 w.heap.size w2.heap.size w2.heap.size gm (gm + 1) gsh (gsh + 1) gex (gex + 1) gu nT nX L tc m u f W2) (ho2 : Blk W2 Bo 34 #[.int .u8 5, .int .i64 (t : Int), .int .i64 (x : Int)]) (hb2 : Blk W2 Bb 67 (bcells fun _ => false)) (hBb : gu < Bb) (hBo : gu < Bo) (hBob : Bo < Bb)
    {K : Act → World → Prop} {Q : Exit → Act → World → Prop} {s0 s1 s2 s3 s4 s5 s6 s11 s13 s14 s18 s19 s20 s21 s22 s23 s24 s25 s26 s27 s28 s29 s30 s31 s32 s33 s34 s35 s36 s37 s38 s39 s40 s41 s42 s43 s44 s45 s46 s47 s48 s49 s50 s51 s52 s53 s54 s55 s56 s57 s58 s59 s60 s61 s62 s63 s64 s65 s66 s67 s68 s69 s70 s71 s72 s73 s74 s75 s76 s77 s78 s79 s80 s81 s82 s83 s84 s85 s86 s87 s88 s89 s90 s91 s92 s93 s94 s95 s96 s97 s98 s99 s100 s101 s103 s104 s105 s106 s107 s108 s109 s110 s111 s112 s113 s114 s115 s116 s117 s118 s119 s120 s121 s122 s123 s124 s125 s126 s127 s128 s129 s130 s131 s132 s133 s134 s135 s136 s137 s138 s139 s140 s141 s142 s143 s144 s145 s146 s147 s148 s149 s150 s151 s152 s153 s154 s155 s156 s157 s158 s159 s160 s161 s162 s163 s164 s165 s166 s167 s168 s169 s170 s171 s172 s173 s174 s175 s176 s177 s178 s179 s180 s181 s182 s183 s184 s185 s186 s187 s188 s189 s190 s191 s192 s193 s194 s195 s196 s197 s198 : Value} {rest : List Value}
    (HQ : Hid (∀ (wc : World) (v18 v19 v103 v104 v105 v106 v107 v108 v109 v110 v111 v112 v113 v114 v115 v116 v117 v118 v119 v120 v121 v122 v123 v124 v125 v126 v127 v128 v129 v130 v131 v132 v133 v134 v135 v136 v137 v138 v139 v140 v141 v142 v143 v144 v145 v146 v147 v148 v149 v150 v151 v152 v153 v154 v155 v156 v157 v158 v159 v160 v161 v162 v163 v164 v165 v166 v167 v168 v169 v170 v171 v172 v173 v174 v175 v176 v177 v178 v179 v180 v181 v182 v183 v184 v185 v186 v187 v188 v189 v190 v191 v192 v193 v194 v195 v196 v197 v198 : Value), CKR w w2 w.heap.size w2.heap.size w2.heap.size gm (gm + 1) gsh (gsh + 1) gex (gex + 1) gu nT nX L tc (put m t x (after 5 (m t x))) (if (5 : Int) = 7 then putB u t true else u) f wc → Blk wc Bb 67 (bcells (bits nT ⟨m, u, f⟩ 5 t x)) → K ⟨(s0 :: s1 :: s2 :: s3 :: s4 :: s5 :: s6 :: (.pointer (some ⟨gsh + 1, 0, none⟩)) :: (.pointer (some ⟨gex + 1, 0, none⟩)) :: (.slice (some ⟨gu, 0, none⟩) nT nT) :: (.func (.func 15) #[] #[.pointer (some ⟨w2.heap.size, 0, none⟩), .pointer (some ⟨gm + 1, 0, none⟩), .pointer (some ⟨gsh + 1, 0, none⟩), .pointer (some ⟨gex + 1, 0, none⟩)]) :: s11 :: (.pointer (some ⟨Bo, 0, none⟩)) :: s13 :: s14 :: (.int .i64 (q : Int)) :: (.int .u8 v) :: (.pointer (some ⟨Bb, 0, none⟩)) :: v18 :: v19 :: s20 :: s21 :: s22 :: s23 :: s24 :: s25 :: s26 :: s27 :: s28 :: s29 :: s30 :: s31 :: s32 :: s33 :: s34 :: s35 :: s36 :: s37 :: s38 :: s39 :: s40 :: s41 :: s42 :: s43 :: s44 :: s45 :: s46 :: s47 :: s48 :: s49 :: s50 :: s51 :: s52 :: s53 :: s54 :: s55 :: s56 :: s57 :: s58 :: s59 :: s60 :: s61 :: s62 :: s63 :: s64 :: s65 :: s66 :: s67 :: s68 :: s69 :: s70 :: s71 :: s72 :: s73 :: s74 :: s75 :: s76 :: s77 :: s78 :: s79 :: s80 :: s81 :: s82 :: s83 :: s84 :: s85 :: s86 :: s87 :: s88 :: s89 :: s90 :: s91 :: s92 :: s93 :: s94 :: s95 :: s96 :: s97 :: s98 :: s99 :: s100 :: s101 :: (.int .u8 5) :: v103 :: v104 :: v105 :: v106 :: v107 :: v108 :: v109 :: v110 :: v111 :: v112 :: v113 :: v114 :: v115 :: v116 :: v117 :: v118 :: v119 :: v120 :: v121 :: v122 :: v123 :: v124 :: v125 :: v126 :: v127 :: v128 :: v129 :: v130 :: v131 :: v132 :: v133 :: v134 :: v135 :: v136 :: v137 :: v138 :: v139 :: v140 :: v141 :: v142 :: v143 :: v144 :: v145 :: v146 :: v147 :: v148 :: v149 :: v150 :: v151 :: v152 :: v153 :: v154 :: v155 :: v156 :: v157 :: v158 :: v159 :: v160 :: v161 :: v162 :: v163 :: v164 :: v165 :: v166 :: v167 :: v168 :: v169 :: v170 :: v171 :: v172 :: v173 :: v174 :: v175 :: v176 :: v177 :: v178 :: v179 :: v180 :: v181 :: v182 :: v183 :: v184 :: v185 :: v186 :: v187 :: v188 :: v189 :: v190 :: v191 :: v192 :: v193 :: v194 :: v195 :: v196 :: v197 :: v198 :: rest).toArray, []⟩ wc)) :
    Code.wp Yba.prog (blk6 6) (Exit.then K Q) ⟨(s0 :: s1 :: s2 :: s3 :: s4 :: s5 :: s6 :: (.pointer (some ⟨gsh + 1, 0, none⟩)) :: (.pointer (some ⟨gex + 1, 0, none⟩)) :: (.slice (some ⟨gu, 0, none⟩) nT nT) :: (.func (.func 15) #[] #[.pointer (some ⟨w2.heap.size, 0, none⟩), .pointer (some ⟨gm + 1, 0, none⟩), .pointer (some ⟨gsh + 1, 0, none⟩), .pointer (some ⟨gex + 1, 0, none⟩)]) :: s11 :: (.pointer (some ⟨Bo, 0, none⟩)) :: s13 :: s14 :: (.int .i64 (q : Int)) :: (.int .u8 v) :: (.pointer (some ⟨Bb, 0, none⟩)) :: s18 :: s19 :: s20 :: s21 :: s22 :: s23 :: s24 :: s25 :: s26 :: s27 :: s28 :: s29 :: s30 :: s31 :: s32 :: s33 :: s34 :: s35 :: s36 :: s37 :: s38 :: s39 :: s40 :: s41 :: s42 :: s43 :: s44 :: s45 :: s46 :: s47 :: s48 :: s49 :: s50 :: s51 :: s52 :: s53 :: s54 :: s55 :: s56 :: s57 :: s58 :: s59 :: s60 :: s61 :: s62 :: s63 :: s64 :: s65 :: s66 :: s67 :: s68 :: s69 :: s70 :: s71 :: s72 :: s73 :: s74 :: s75 :: s76 :: s77 :: s78 :: s79 :: s80 :: s81 :: s82 :: s83 :: s84 :: s85 :: s86 :: s87 :: s88 :: s89 :: s90 :: s91 :: s92 :: s93 :: s94 :: s95 :: s96 :: s97 :: s98 :: s99 :: s100 :: s101 :: (.int .u8 5) :: s103 :: s104 :: s105 :: s106 :: s107 :: s108 :: s109 :: s110 :: s111 :: s112 :: s113 :: s114 :: s115 :: s116 :: s117 :: s118 :: s119 :: s120 :: s121 :: s122 :: s123 :: s124 :: s125 :: s126 :: s127 :: s128 :: s129 :: s130 :: s131 :: s132 :: s133 :: s134 :: s135 :: s136 :: s137 :: s138 :: s139 :: s140 :: s141 :: s142 :: s143 :: s144 :: s145 :: s146 :: s147 :: s148 :: s149 :: s150 :: s151 :: s152 :: s153 :: s154 :: s155 :: s156 :: s157 :: s158 :: s159 :: s160 :: s161 :: s162 :: s163 :: s164 :: s165 :: s166 :: s167 :: s168 :: s169 :: s170 :: s171 :: s172 :: s173 :: s174 :: s175 :: s176 :: s177 :: s178 :: s179 :: s180 :: s181 :: s182 :: s183 :: s184 :: s185 :: s186 :: s187 :: s188 :: s189 :: s190 :: s191 :: s192 :: s193 :: s194 :: s195 :: s196 :: s197 :: s198 :: rest).toArray, []⟩ W2 := by
  conv => arg 2; whnf
  have k1 := ho2.cellOf (j := 1) rfl
  have k2 := ho2.cellOf (j := 2) rfl
  have bf1 := hb2.frozen 1
  have bc1 := hb2.cellOf (bcells_get _ (t := 1) (by omega))
  have bf2 := hb2.frozen 2
  have bc2 := hb2.cellOf (bcells_get _ (t := 2) (by omega))
  have bf3 := hb2.frozen 3
  have bc3 := hb2.cellOf (bcells_get _ (t := 3) (by omega))
  have bf4 := hb2.frozen 4
  have bc4 := hb2.cellOf (bcells_get _ (t := 4) (by omega))
  have bf5 := hb2.frozen 5
  have bc5 := hb2.cellOf (bcells_get _ (t := 5) (by omega))
  have cu := hm2.un.cellOf (bools_get u ht)
  have fu := hm2.un.frozen t
  have hguB : gu ≠ Bb := by omega
  obtain ⟨uv, huv⟩ : ∃ uv, u t = uv := ⟨_, rfl⟩
  have Huv : Hid (u t = uv) := huv
  rw [huv] at cu
  clear huv
  obtain ⟨qv, cbx, cx, hqb, hoth⟩ := hm2.ex htab hq1 Hqx.out
  rw [Hqt.out, Hv'.out] at hoth
  have hqb' : 0 ≤ qv ∧ qv ≤ 4 := by omega
  clear hqb
  rcases hvr with rfl | rfl | rfl | rfl
  · obtain ⟨ob, hob⟩ : ∃ ob, decide (0 < qv) = ob := ⟨_, rfl⟩
    have Hob : Hid (ob = other nT m t x 2 2) := (by rw [← hoth, ← hob]; exact Bool.eq_iff_iff.2 (by simp <;> omega) : ob = other nT m t x 2 2)
    clear hoth
    go_wp2_with (go_at_call 15; refine (Hcall.out _ u _ (by omega) (((hm2.setO hpl Bb 1 hBb (.bool false)).setO hpl Bb 2 hBb (.bool ob)).setO hpl Bb 3 hBb (.bool uv))).mono ?_; rintro e w4 ⟨⟨z, rfl⟩, hm4, hk4⟩)
    refine HQ.out _ _ _ _ _ _ _ _ _ _ _ _ _ _ _ _ _ _ _ _ _ _ _ _ _ _ _ _ _ _ _ _ _ _ _ _ _ _ _ _ _ _ _ _ _ _ _ _ _ _ _ _ _ _ _ _ _ _ _ _ _ _ _ _ _ _ _ _ _ _ _ _ _ _ _ _ _ _ _ _ _ _ _ _ _ _ _ _ _ _ _ _ _ _ _ _ _ _ _ ?_ ?_
    · rw [if_neg (by decide), show after 5 (m t x) = 1 by simp [after, Hv'.out]]
      exact hm4
    · exact hk4 _ _ _ hBb (blkCongrB (blkSetB (blkSetB (blkSetB hb2 1 _) 2 _) 3 _) fun r => by rw [← bits_5, ← Hob.out, ← Huv.out]; simp [Hv'.out])
  · obtain ⟨ob, hob⟩ : ∃ ob, decide (0 < qv) = ob := ⟨_, rfl⟩
    have Hob : Hid (ob = other nT m t x 2 2) := (by rw [← hoth, ← hob]; exact Bool.eq_iff_iff.2 (by simp <;> omega) : ob = other nT m t x 2 2)
    clear hoth
    go_wp2_with (go_at_call 15; refine (Hcall.out _ u _ (by omega) (((hm2.setO hpl Bb 1 hBb (.bool true)).setO hpl Bb 2 hBb (.bool ob)).setO hpl Bb 3 hBb (.bool uv))).mono ?_; rintro e w4 ⟨⟨z, rfl⟩, hm4, hk4⟩)
    refine HQ.out _ _ _ _ _ _ _ _ _ _ _ _ _ _ _ _ _ _ _ _ _ _ _ _ _ _ _ _ _ _ _ _ _ _ _ _ _ _ _ _ _ _ _ _ _ _ _ _ _ _ _ _ _ _ _ _ _ _ _ _ _ _ _ _ _ _ _ _ _ _ _ _ _ _ _ _ _ _ _ _ _ _ _ _ _ _ _ _ _ _ _ _ _ _ _ _ _ _ _ ?_ ?_
    · rw [if_neg (by decide), show after 5 (m t x) = 1 by simp [after, Hv'.out]]
      exact hm4
    · exact hk4 _ _ _ hBb (blkCongrB (blkSetB (blkSetB (blkSetB hb2 1 _) 2 _) 3 _) fun r => by rw [← bits_5, ← Hob.out, ← Huv.out]; simp [Hv'.out])
  · obtain ⟨ob, hob⟩ : ∃ ob, decide (1 < qv) = ob := ⟨_, rfl⟩
    have Hob : Hid (ob = other nT m t x 2 2) := (by rw [← hoth, ← hob]; exact Bool.eq_iff_iff.2 (by simp <;> omega) : ob = other nT m t x 2 2)
    clear hoth
    go_wp2_with (go_at_call 15; refine (Hcall.out _ u _ (by omega) (((hm2.setO hpl Bb 1 hBb (.bool true)).setO hpl Bb 2 hBb (.bool ob)).setO hpl Bb 3 hBb (.bool uv))).mono ?_; rintro e w4 ⟨⟨z, rfl⟩, hm4, hk4⟩)
    refine HQ.out _ _ _ _ _ _ _ _ _ _ _ _ _ _ _ _ _ _ _ _ _ _ _ _ _ _ _ _ _ _ _ _ _ _ _ _ _ _ _ _ _ _ _ _ _ _ _ _ _ _ _ _ _ _ _ _ _ _ _ _ _ _ _ _ _ _ _ _ _ _ _ _ _ _ _ _ _ _ _ _ _ _ _ _ _ _ _ _ _ _ _ _ _ _ _ _ _ _ _ ?_ ?_
    · rw [if_neg (by decide), show after 5 (m t x) = 2 by simp [after, Hv'.out]]
      exact hm4
    · exact hk4 _ _ _ hBb (blkCongrB (blkSetB (blkSetB (blkSetB hb2 1 _) 2 _) 3 _) fun r => by rw [← bits_5, ← Hob.out, ← Huv.out]; simp [Hv'.out])
  · obtain ⟨ob, hob⟩ : ∃ ob, decide (0 < qv) = ob := ⟨_, rfl⟩
    have Hob : Hid (ob = other nT m t x 2 2) := (by rw [← hoth, ← hob]; exact Bool.eq_iff_iff.2 (by simp <;> omega) : ob = other nT m t x 2 2)
    clear hoth
    go_wp2_with (go_at_call 15; refine (Hcall.out _ u _ (by omega) (((hm2.setO hpl Bb 1 hBb (.bool true)).setO hpl Bb 2 hBb (.bool ob)).setO hpl Bb 3 hBb (.bool uv))).mono ?_; rintro e w4 ⟨⟨z, rfl⟩, hm4, hk4⟩)
    refine HQ.out _ _ _ _ _ _ _ _ _ _ _ _ _ _ _ _ _ _ _ _ _ _ _ _ _ _ _ _ _ _ _ _ _ _ _ _ _ _ _ _ _ _ _ _ _ _ _ _ _ _ _ _ _ _ _ _ _ _ _ _ _ _ _ _ _ _ _ _ _ _ _ _ _ _ _ _ _ _ _ _ _ _ _ _ _ _ _ _ _ _ _ _ _ _ _ _ _ _ _ ?_ ?_
    · rw [if_neg (by decide), show after 5 (m t x) = 3 by simp [after, Hv'.out]]
      exact hm4
    · exact hk4 _ _ _ hBb (blkCongrB (blkSetB (blkSetB (blkSetB hb2 1 _) 2 _) 3 _) fun r => by rw [← bits_5, ← Hob.out, ← Huv.out]; simp [Hv'.out])

set_option maxHeartbeats 8000000 in
set_option maxRecDepth 100000 in
theorem check_sum {W2 : World} {Bo gsh gex nX x : Nat} {qv qw : Int} (cbs : W2.cell? ⟨gsh + 1, 0, none⟩ = some (.slice (some ⟨gsh, 0, none⟩) nX nX)) (cbx : W2.cell? ⟨gex + 1, 0, none⟩ = some (.slice (some ⟨gex, 0, none⟩) nX nX)) (co2 : W2.cell? ⟨Bo, 2, none⟩ = some (.int .i64 (x : Int))) (cs : W2.cell? ⟨gsh, x, none⟩ = some (.int .i64 qv)) (cx : W2.cell? ⟨gex, x, none⟩ = some (.int .i64 qw))
    (hx : x < nX) (hX : nX ≤ 3) (hqb' : 0 ≤ qv ∧ qv ≤ 4) (hqc' : 0 ≤ qw ∧ qw ≤ 4)
    {K : Act → World → Prop} {Q : Exit → Act → World → Prop} {s0 s1 s2 s3 s4 s5 s6 s9 s10 s11 s13 s14 s15 s16 s17 s18 s19 s20 s21 s22 s23 s24 s25 s26 s27 s28 s29 s30 s31 s32 s33 s34 s35 s36 s37 s38 s39 s40 s41 s42 s43 s44 s45 s46 s47 s48 s49 s50 s51 s52 s53 s54 s55 s56 s57 s58 s59 s60 s61 s62 s63 s64 s65 s66 s67 s68 s69 s70 s71 s72 s73 s74 s75 s76 s77 s78 s79 s80 s81 s82 s83 s84 s85 s86 s87 s88 s89 s90 s91 s92 s93 s94 s95 s96 s97 s98 s99 s100 s101 s102 s103 s104 s105 s106 s107 s108 s109 s110 s111 s112 s113 s114 s115 s116 s117 s118 s119 s120 s121 s122 s123 s124 s125 s126 s127 s128 s129 s130 s131 s132 s133 s134 s135 s136 s137 s138 s139 s140 s141 s142 s143 s144 s145 s146 s147 s148 s149 s150 s151 s152 s153 s154 s155 s156 s157 : Value} {rest : List Value}
    (HQ : Hid (K ⟨(s0 :: s1 :: s2 :: s3 :: s4 :: s5 :: s6 :: (.pointer (some ⟨gsh + 1, 0, none⟩)) :: (.pointer (some ⟨gex + 1, 0, none⟩)) :: s9 :: s10 :: s11 :: (.pointer (some ⟨Bo, 0, none⟩)) :: s13 :: s14 :: s15 :: s16 :: s17 :: s18 :: (.int .i64 (qv + qw)) :: s20 :: s21 :: s22 :: s23 :: s24 :: s25 :: s26 :: s27 :: s28 :: s29 :: s30 :: s31 :: s32 :: s33 :: s34 :: s35 :: s36 :: s37 :: s38 :: s39 :: s40 :: s41 :: s42 :: s43 :: s44 :: s45 :: s46 :: s47 :: s48 :: s49 :: s50 :: s51 :: s52 :: s53 :: s54 :: s55 :: s56 :: s57 :: s58 :: s59 :: s60 :: s61 :: s62 :: s63 :: s64 :: s65 :: s66 :: s67 :: s68 :: s69 :: s70 :: s71 :: s72 :: s73 :: s74 :: s75 :: s76 :: s77 :: s78 :: s79 :: s80 :: s81 :: s82 :: s83 :: s84 :: s85 :: s86 :: s87 :: s88 :: s89 :: s90 :: s91 :: s92 :: s93 :: s94 :: s95 :: s96 :: s97 :: s98 :: s99 :: s100 :: s101 :: s102 :: s103 :: s104 :: s105 :: s106 :: s107 :: s108 :: s109 :: s110 :: s111 :: s112 :: s113 :: s114 :: s115 :: s116 :: s117 :: s118 :: s119 :: s120 :: s121 :: s122 :: s123 :: s124 :: s125 :: s126 :: s127 :: s128 :: s129 :: s130 :: s131 :: s132 :: s133 :: s134 :: s135 :: s136 :: s137 :: s138 :: s139 :: s140 :: s141 :: s142 :: s143 :: s144 :: s145 :: s146 :: (.slice (some ⟨gsh, 0, none⟩) nX nX) :: (.pointer (some ⟨Bo, 2, none⟩)) :: (.int .i64 (x : Int)) :: (.pointer (some ⟨gsh, x, none⟩)) :: (.int .i64 qv) :: (.slice (some ⟨gex, 0, none⟩) nX nX) :: (.pointer (some ⟨Bo, 2, none⟩)) :: (.int .i64 (x : Int)) :: (.pointer (some ⟨gex, x, none⟩)) :: (.int .i64 qw) :: (.int .i64 (qv + qw)) :: rest).toArray, []⟩ W2.drew)) :
    Code.wp Yba.prog (reg6 40) (Exit.then K Q) ⟨(s0 :: s1 :: s2 :: s3 :: s4 :: s5 :: s6 :: (.pointer (some ⟨gsh + 1, 0, none⟩)) :: (.pointer (some ⟨gex + 1, 0, none⟩)) :: s9 :: s10 :: s11 :: (.pointer (some ⟨Bo, 0, none⟩)) :: s13 :: s14 :: s15 :: s16 :: s17 :: s18 :: s19 :: s20 :: s21 :: s22 :: s23 :: s24 :: s25 :: s26 :: s27 :: s28 :: s29 :: s30 :: s31 :: s32 :: s33 :: s34 :: s35 :: s36 :: s37 :: s38 :: s39 :: s40 :: s41 :: s42 :: s43 :: s44 :: s45 :: s46 :: s47 :: s48 :: s49 :: s50 :: s51 :: s52 :: s53 :: s54 :: s55 :: s56 :: s57 :: s58 :: s59 :: s60 :: s61 :: s62 :: s63 :: s64 :: s65 :: s66 :: s67 :: s68 :: s69 :: s70 :: s71 :: s72 :: s73 :: s74 :: s75 :: s76 :: s77 :: s78 :: s79 :: s80 :: s81 :: s82 :: s83 :: s84 :: s85 :: s86 :: s87 :: s88 :: s89 :: s90 :: s91 :: s92 :: s93 :: s94 :: s95 :: s96 :: s97 :: s98 :: s99 :: s100 :: s101 :: s102 :: s103 :: s104 :: s105 :: s106 :: s107 :: s108 :: s109 :: s110 :: s111 :: s112 :: s113 :: s114 :: s115 :: s116 :: s117 :: s118 :: s119 :: s120 :: s121 :: s122 :: s123 :: s124 :: s125 :: s126 :: s127 :: s128 :: s129 :: s130 :: s131 :: s132 :: s133 :: s134 :: s135 :: s136 :: s137 :: s138 :: s139 :: s140 :: s141 :: s142 :: s143 :: s144 :: s145 :: s146 :: s147 :: s148 :: s149 :: s150 :: s151 :: s152 :: s153 :: s154 :: s155 :: s156 :: s157 :: rest).toArray, []⟩ W2 := by
  conv => arg 2; whnf
  have HS0 : Hid (W2.drew.cell? ⟨gsh + 1, 0, none⟩ = some (.slice (some ⟨gsh, 0, none⟩) nX nX) ∧ W2.drew.cell? ⟨gex + 1, 0, none⟩ = some (.slice (some ⟨gex, 0, none⟩) nX nX) ∧ W2.drew.cell? ⟨Bo, 2, none⟩ = some (.int .i64 (x : Int)) ∧ W2.drew.cell? ⟨gsh, x, none⟩ = some (.int .i64 qv) ∧ W2.drew.cell? ⟨gex, x, none⟩ = some (.int .i64 qw)) := ⟨cbs, cbx, co2, cs, cx⟩
  clear cbs cbx co2 cs cx
  have hwr2 : IntKind.i64.wrap (qv + qw) = qv + qw := wrapI _ (by omega)
  refine wp_region_noPanic ?_
  refine wp_region_held_drew (S := fun w' => w'.cell? ⟨gsh + 1, 0, none⟩ = some (.slice (some ⟨gsh, 0, none⟩) nX nX) ∧ w'.cell? ⟨gex + 1, 0, none⟩ = some (.slice (some ⟨gex, 0, none⟩) nX nX) ∧ w'.cell? ⟨Bo, 2, none⟩ = some (.int .i64 (x : Int)) ∧ w'.cell? ⟨gsh, x, none⟩ = some (.int .i64 qv) ∧ w'.cell? ⟨gex, x, none⟩ = some (.int .i64 qw)) (by kernel_rfl) HS0.out (fun hHeld => ?_)
  refine wpAnyH_take (i := 0) (v := .slice (some ⟨gsh, 0, none⟩) nX nX) rfl (by kernel_rfl) (by kernel_rfl) (by kernel_rfl) (fun _ _ _ h => h) (Or.inl ⟨by rfl, fun w hSw => by go_simp⟩) hHeld ?_
  try simp only [Act.put, List.setIfInBounds_toArray, List.set_cons_zero, List.set_cons_succ]
  refine wpAnyH_take (i := 1) (v := .pointer (some ⟨Bo, 2, none⟩)) rfl (by kernel_rfl) (by kernel_rfl) (by kernel_rfl) (fun _ _ _ h => h) (Or.inl ⟨by rfl, fun w hSw => by go_simp⟩) hHeld ?_
  try simp only [Act.put, List.setIfInBounds_toArray, List.set_cons_zero, List.set_cons_succ]
  refine wpAnyH_take (i := 2) (v := .int .i64 (x : Int)) rfl (by kernel_rfl) (by kernel_rfl) (by kernel_rfl) (fun _ _ _ h => h) (Or.inl ⟨by rfl, fun w hSw => by go_simp⟩) hHeld ?_
  try simp only [Act.put, List.setIfInBounds_toArray, List.set_cons_zero, List.set_cons_succ]
  refine wpAnyH_take (i := 3) (v := .pointer (some ⟨gsh, x, none⟩)) rfl (by kernel_rfl) (by kernel_rfl) (by kernel_rfl) (fun _ _ _ h => h) (Or.inl ⟨by rfl, fun w hSw => by go_simp⟩) hHeld ?_
  try simp only [Act.put, List.setIfInBounds_toArray, List.set_cons_zero, List.set_cons_succ]
  refine wpAnyH_take (i := 4) (v := .int .i64 qv) rfl (by kernel_rfl) (by kernel_rfl) (by kernel_rfl) (fun _ _ _ h => h) (Or.inl ⟨by rfl, fun w hSw => by go_simp⟩) hHeld ?_
  try simp only [Act.put, List.setIfInBounds_toArray, List.set_cons_zero, List.set_cons_succ]
  refine wpAnyH_take (i := 5) (v := .slice (some ⟨gex, 0, none⟩) nX nX) rfl (by kernel_rfl) (by kernel_rfl) (by kernel_rfl) (fun _ _ _ h => h) (Or.inl ⟨by rfl, fun w hSw => by go_simp⟩) hHeld ?_
  try simp only [Act.put, List.setIfInBounds_toArray, List.set_cons_zero, List.set_cons_succ]
  refine wpAnyH_take (i := 6) (v := .pointer (some ⟨Bo, 2, none⟩)) rfl (by kernel_rfl) (by kernel_rfl) (by kernel_rfl) (fun _ _ _ h => h) (Or.inl ⟨by rfl, fun w hSw => by go_simp⟩) hHeld ?_
  try simp only [Act.put, List.setIfInBounds_toArray, List.set_cons_zero, List.set_cons_succ]
  refine wpAnyH_take (i := 7) (v := .int .i64 (x : Int)) rfl (by kernel_rfl) (by kernel_rfl) (by kernel_rfl) (fun _ _ _ h => h) (Or.inl ⟨by rfl, fun w hSw => by go_simp⟩) hHeld ?_
  try simp only [Act.put, List.setIfInBounds_toArray, List.set_cons_zero, List.set_cons_succ]
  refine wpAnyH_take (i := 8) (v := .pointer (some ⟨gex, x, none⟩)) rfl (by kernel_rfl) (by kernel_rfl) (by kernel_rfl) (fun _ _ _ h => h) (Or.inl ⟨by rfl, fun w hSw => by go_simp⟩) hHeld ?_
  try simp only [Act.put, List.setIfInBounds_toArray, List.set_cons_zero, List.set_cons_succ]
  refine wpAnyH_take (i := 9) (v := .int .i64 qw) rfl (by kernel_rfl) (by kernel_rfl) (by kernel_rfl) (fun _ _ _ h => h) (Or.inl ⟨by rfl, fun w hSw => by go_simp⟩) hHeld ?_
  try simp only [Act.put, List.setIfInBounds_toArray, List.set_cons_zero, List.set_cons_succ]
  refine wpAnyH_take (i := 10) (v := .int .i64 (qv + qw)) rfl (by kernel_rfl) (by kernel_rfl) (by kernel_rfl) (fun _ _ _ h => h) (Or.inl ⟨by rfl, fun w hSw => by go_simp⟩) hHeld ?_
  try simp only [Act.put, List.setIfInBounds_toArray, List.set_cons_zero, List.set_cons_succ]
  refine wpAnyH_ready (rs := [11]) (by kernel_rfl) (by simp) ?_
  refine AllReadyH.cons rfl (fun K hK => ?_) AllReadyH.nil
  go_simp
  refine hK.out _ _ (hHeld) (fun hHeld => ?_)
  clear hK K
  try simp only [Act.put, List.setIfInBounds_toArray, List.set_cons_zero, List.set_cons_succ]
  refine wpAnyH_done (by kernel_rfl) ?_ _
  refine NoPanic.normal ?_
  exact HQ.out

set_option maxHeartbeats 8000000 in
set_option maxRecDepth 100000 in
theorem check_6 {w w2 : World} {gm gsh gex gu nT nX : Nat} {L : List (Nat × Nat)} {tc : Array Value} {m : Nat → Nat → Int} {u : Nat → Bool} {f : Nat → Int} {W2 : World} {Bo Bb t x q : Nat} {v : Int}
    (hpl : Pl w.heap.size w2.heap.size w2.heap.size gm (gm + 1) gsh (gsh + 1) gex (gex + 1) gu) (htab : Tab L.length nT nX (txL L) (itL L)) (hT : nT ≤ 4) (hX : nX ≤ 3) (ht : t < nT) (hx : x < nX) (hq1 : q < L.length) (hLl : L.length ≤ 4096) (Hqt : Hid (txL L q = t)) (Hqx : Hid (itL L q = x)) (Hv' : Hid (m t x = v)) (hvr : v = 0 ∨ v = 1 ∨ v = 2 ∨ v = 3) (hv3 : v ≠ 3)
    (Hcall : Hid (∀ (W' : World) (u' : Nat → Bool) (z : Int), (z = 0 ∨ z = 1 ∨ z = 2 ∨ z = 3) → CKR w w2 w.heap.size w2.heap.size w2.heap.size gm (gm + 1) gsh (gsh + 1) gex (gex + 1) gu nT nX L tc m u' f W' → Calls Yba.prog 15 #[.int .i64 q, .int .u8 z, .pointer (some ⟨w2.heap.size, 0, none⟩), .pointer (some ⟨gm + 1, 0, none⟩), .pointer (some ⟨gsh + 1, 0, none⟩), .pointer (some ⟨gex + 1, 0, none⟩)] W' fun e w' => (∃ z, e = .returned z) ∧ CKR w w2 w.heap.size w2.heap.size w2.heap.size gm (gm + 1) gsh (gsh + 1) gex (gex + 1) gu nT nX L tc (put m t x z) u' f w' ∧ ∀ g e cur, gu < g → Blk W' g e cur → Blk w' g e cur))
    (hm2 : CKR w w2 w.heap.size w2.heap.size w2.heap.size gm (gm + 1) gsh (gsh + 1) gex (gex + 1) gu nT nX L tc m u f W2) (ho2 : Blk W2 Bo 34 #[.int .u8 6, .int .i64 (t : Int), .int .i64 (x : Int)]) (hb2 : Blk W2 Bb 67 (bcells fun _ => false)) (hBb : gu < Bb) (hBo : gu < Bo) (hBob : Bo < Bb)
    {K : Act → World → Prop} {Q : Exit → Act → World → Prop} {s0 s1 s2 s3 s4 s5 s6 s11 s13 s14 s18 s19 s20 s21 s22 s23 s24 s25 s26 s27 s28 s29 s30 s31 s32 s33 s34 s35 s36 s37 s38 s39 s40 s41 s42 s43 s44 s45 s46 s47 s48 s49 s50 s51 s52 s53 s54 s55 s56 s57 s58 s59 s60 s61 s62 s63 s64 s65 s66 s67 s68 s69 s70 s71 s72 s73 s74 s75 s76 s77 s78 s79 s80 s81 s82 s83 s84 s85 s86 s87 s88 s89 s90 s91 s92 s93 s94 s95 s96 s97 s98 s99 s100 s101 s103 s104 s105 s106 s107 s108 s109 s110 s111 s112 s113 s114 s115 s116 s117 s118 s119 s120 s121 s122 s123 s124 s125 s126 s127 s128 s129 s130 s131 s132 s133 s134 s135 s136 s137 s138 s139 s140 s141 s142 s143 s144 s145 s146 s147 s148 s149 s150 s151 s152 s153 s154 s155 s156 s157 s158 s159 s160 s161 s162 s163 s164 s165 s166 s167 s168 s169 s170 s171 s172 s173 s174 s175 s176 s177 s178 s179 s180 s181 s182 s183 s184 s185 s186 s187 s188 s189 s190 s191 s192 s193 s194 s195 s196 s197 s198 : Value} {rest : List Value}
    (HQ : Hid (∀ (wc : World) (v18 v19 v103 v104 v105 v106 v107 v108 v109 v110 v111 v112 v113 v114 v115 v116 v117 v118 v119 v120 v121 v122 v123 v124 v125 v126 v127 v128 v129 v130 v131 v132 v133 v134 v135 v136 v137 v138 v139 v140 v141 v142 v143 v144 v145 v146 v147 v148 v149 v150 v151 v152 v153 v154 v155 v156 v157 v158 v159 v160 v161 v162 v163 v164 v165 v166 v167 v168 v169 v170 v171 v172 v173 v174 v175 v176 v177 v178 v179 v180 v181 v182 v183 v184 v185 v186 v187 v188 v189 v190 v191 v192 v193 v194 v195 v196 v197 v198 : Value), CKR w w2 w.heap.size w2.heap.size w2.heap.size gm (gm + 1) gsh (gsh + 1) gex (gex + 1) gu nT nX L tc (put m t x (after 6 (m t x))) (if (6 : Int) = 7 then putB u t true else u) f wc → Blk wc Bb 67 (bcells (bits nT ⟨m, u, f⟩ 6 t x)) → K ⟨(s0 :: s1 :: s2 :: s3 :: s4 :: s5 :: s6 :: (.pointer (some ⟨gsh + 1, 0, none⟩)) :: (.pointer (some ⟨gex + 1, 0, none⟩)) :: (.slice (some ⟨gu, 0, none⟩) nT nT) :: (.func (.func 15) #[] #[.pointer (some ⟨w2.heap.size, 0, none⟩), .pointer (some ⟨gm + 1, 0, none⟩), .pointer (some ⟨gsh + 1, 0, none⟩), .pointer (some ⟨gex + 1, 0, none⟩)]) :: s11 :: (.pointer (some ⟨Bo, 0, none⟩)) :: s13 :: s14 :: (.int .i64 (q : Int)) :: (.int .u8 v) :: (.pointer (some ⟨Bb, 0, none⟩)) :: v18 :: v19 :: s20 :: s21 :: s22 :: s23 :: s24 :: s25 :: s26 :: s27 :: s28 :: s29 :: s30 :: s31 :: s32 :: s33 :: s34 :: s35 :: s36 :: s37 :: s38 :: s39 :: s40 :: s41 :: s42 :: s43 :: s44 :: s45 :: s46 :: s47 :: s48 :: s49 :: s50 :: s51 :: s52 :: s53 :: s54 :: s55 :: s56 :: s57 :: s58 :: s59 :: s60 :: s61 :: s62 :: s63 :: s64 :: s65 :: s66 :: s67 :: s68 :: s69 :: s70 :: s71 :: s72 :: s73 :: s74 :: s75 :: s76 :: s77 :: s78 :: s79 :: s80 :: s81 :: s82 :: s83 :: s84 :: s85 :: s86 :: s87 :: s88 :: s89 :: s90 :: s91 :: s92 :: s93 :: s94 :: s95 :: s96 :: s97 :: s98 :: s99 :: s100 :: s101 :: (.int .u8 6) :: v103 :: v104 :: v105 :: v106 :: v107 :: v108 :: v109 :: v110 :: v111 :: v112 :: v113 :: v114 :: v115 :: v116 :: v117 :: v118 :: v119 :: v120 :: v121 :: v122 :: v123 :: v124 :: v125 :: v126 :: v127 :: v128 :: v129 :: v130 :: v131 :: v132 :: v133 :: v134 :: v135 :: v136 :: v137 :: v138 :: v139 :: v140 :: v141 :: v142 :: v143 :: v144 :: v145 :: v146 :: v147 :: v148 :: v149 :: v150 :: v151 :: v152 :: v153 :: v154 :: v155 :: v156 :: v157 :: v158 :: v159 :: v160 :: v161 :: v162 :: v163 :: v164 :: v165 :: v166 :: v167 :: v168 :: v169 :: v170 :: v171 :: v172 :: v173 :: v174 :: v175 :: v176 :: v177 :: v178 :: v179 :: v180 :: v181 :: v182 :: v183 :: v184 :: v185 :: v186 :: v187 :: v188 :: v189 :: v190 :: v191 :: v192 :: v193 :: v194 :: v195 :: v196 :: v197 :: v198 :: rest).toArray, []⟩ wc)) :
    Code.wp Yba.prog (blk6 6) (Exit.then K Q) ⟨(s0 :: s1 :: s2 :: s3 :: s4 :: s5 :: s6 :: (.pointer (some ⟨gsh + 1, 0, none⟩)) :: (.pointer (some ⟨gex + 1, 0, none⟩)) :: (.slice (some ⟨gu, 0, none⟩) nT nT) :: (.func (.func 15) #[] #[.pointer (some ⟨w2.heap.size, 0, none⟩), .pointer (some ⟨gm + 1, 0, none⟩), .pointer (some ⟨gsh + 1, 0, none⟩), .pointer (some ⟨gex + 1, 0, none⟩)]) :: s11 :: (.pointer (some ⟨Bo, 0, none⟩)) :: s13 :: s14 :: (.int .i64 (q : Int)) :: (.int .u8 v) :: (.pointer (some ⟨Bb, 0, none⟩)) :: s18 :: s19 :: s20 :: s21 :: s22 :: s23 :: s24 :: s25 :: s26 :: s27 :: s28 :: s29 :: s30 :: s31 :: s32 :: s33 :: s34 :: s35 :: s36 :: s37 :: s38 :: s39 :: s40 :: s41 :: s42 :: s43 :: s44 :: s45 :: s46 :: s47 :: s48 :: s49 :: s50 :: s51 :: s52 :: s53 :: s54 :: s55 :: s56 :: s57 :: s58 :: s59 :: s60 :: s61 :: s62 :: s63 :: s64 :: s65 :: s66 :: s67 :: s68 :: s69 :: s70 :: s71 :: s72 :: s73 :: s74 :: s75 :: s76 :: s77 :: s78 :: s79 :: s80 :: s81 :: s82 :: s83 :: s84 :: s85 :: s86 :: s87 :: s88 :: s89 :: s90 :: s91 :: s92 :: s93 :: s94 :: s95 :: s96 :: s97 :: s98 :: s99 :: s100 :: s101 :: (.int .u8 6) :: s103 :: s104 :: s105 :: s106 :: s107 :: s108 :: s109 :: s110 :: s111 :: s112 :: s113 :: s114 :: s115 :: s116 :: s117 :: s118 :: s119 :: s120 :: s121 :: s122 :: s123 :: s124 :: s125 :: s126 :: s127 :: s128 :: s129 :: s130 :: s131 :: s132 :: s133 :: s134 :: s135 :: s136 :: s137 :: s138 :: s139 :: s140 :: s141 :: s142 :: s143 :: s144 :: s145 :: s146 :: s147 :: s148 :: s149 :: s150 :: s151 :: s152 :: s153 :: s154 :: s155 :: s156 :: s157 :: s158 :: s159 :: s160 :: s161 :: s162 :: s163 :: s164 :: s165 :: s166 :: s167 :: s168 :: s169 :: s170 :: s171 :: s172 :: s173 :: s174 :: s175 :: s176 :: s177 :: s178 :: s179 :: s180 :: s181 :: s182 :: s183 :: s184 :: s185 :: s186 :: s187 :: s188 :: s189 :: s190 :: s191 :: s192 :: s193 :: s194 :: s195 :: s196 :: s197 :: s198 :: rest).toArray, []⟩ W2 := by
  conv => arg 2; whnf
  have k1 := ho2.cellOf (j := 1) rfl
  have k2 := ho2.cellOf (j := 2) rfl
  have bf1 := hb2.frozen 1
  have bc1 := hb2.cellOf (bcells_get _ (t := 1) (by omega))
  have bf2 := hb2.frozen 2
  have bc2 := hb2.cellOf (bcells_get _ (t := 2) (by omega))
  have bf3 := hb2.frozen 3
  have bc3 := hb2.cellOf (bcells_get _ (t := 3) (by omega))
  have bf4 := hb2.frozen 4
  have bc4 := hb2.cellOf (bcells_get _ (t := 4) (by omega))
  have bf5 := hb2.frozen 5
  have bc5 := hb2.cellOf (bcells_get _ (t := 5) (by omega))
  have cu := hm2.un.cellOf (bools_get u ht)
  have fu := hm2.un.frozen t
  have hguB : gu ≠ Bb := by omega
  obtain ⟨uv, huv⟩ : ∃ uv, u t = uv := ⟨_, rfl⟩
  have Huv : Hid (u t = uv) := huv
  rw [huv] at cu
  clear huv
  obtain ⟨qv, qw, cbx, cbs, cs, cx, hqb, hqc, hoth⟩ := hm2.all htab hq1 Hqx.out (by rw [Hqt.out, Hv'.out]; omega)
  rw [Hqt.out, Hv'.out] at hoth
  have hqb' : 0 ≤ qv ∧ qv ≤ 4 := by omega
  have hqc' : 0 ≤ qw ∧ qw ≤ 4 := by omega
  clear hqb hqc
  go_upto_region 40 with fail
  refine check_sum cbs cbx (ho2.cellOf (j := 2) rfl) cs cx hx hX hqb' hqc' ?_
  unfold Hid
  have hm2 := hm2.below (Below.refl _ _).drew
  have hb2 := hb2.drew
  have ho2 := ho2.drew
  clear cbx cbs cs cx k1 k2 bf1 bf2 bf3 bf4 bf5 bc1 bc2 bc3 bc4 bc5 cu fu
  generalize W2.drew = W3 at *
  have k1 := ho2.cellOf (j := 1) rfl
  have bf1 := hb2.frozen 1
  have bc1 := hb2.cellOf (bcells_get _ (t := 1) (by omega))
  have bf2 := hb2.frozen 2
  have bc2 := hb2.cellOf (bcells_get _ (t := 2) (by omega))
  have bf3 := hb2.frozen 3
  have bc3 := hb2.cellOf (bcells_get _ (t := 3) (by omega))
  have cu := hm2.un.cellOf (bools_get u ht)
  rw [Huv.out] at cu
  rcases hvr with rfl | rfl | rfl | rfl
  · obtain ⟨ob, hob⟩ : ∃ ob, decide (0 < qv + qw) = ob := ⟨_, rfl⟩
    have Hob : Hid (ob = other nT m t x 1 2) := (by rw [← hoth, ← hob]; exact Bool.eq_iff_iff.2 (by simp <;> omega) : ob = other nT m t x 1 2)
    clear hoth hv3
    go_wp2_with (go_at_call 15; refine (Hcall.out _ u _ (by omega) (((hm2.setO hpl Bb 1 hBb (.bool false)).setO hpl Bb 2 hBb (.bool ob)).setO hpl Bb 3 hBb (.bool uv))).mono ?_; rintro e w4 ⟨⟨z, rfl⟩, hm4, hk4⟩)
    refine HQ.out _ _ _ _ _ _ _ _ _ _ _ _ _ _ _ _ _ _ _ _ _ _ _ _ _ _ _ _ _ _ _ _ _ _ _ _ _ _ _ _ _ _ _ _ _ _ _ _ _ _ _ _ _ _ _ _ _ _ _ _ _ _ _ _ _ _ _ _ _ _ _ _ _ _ _ _ _ _ _ _ _ _ _ _ _ _ _ _ _ _ _ _ _ _ _ _ _ _ _ ?_ ?_
    · rw [if_neg (by decide), show after 6 (m t x) = 2 by simp [after]]
      exact hm4
    · exact hk4 _ _ _ hBb (blkCongrB (blkSetB (blkSetB (blkSetB hb2 1 _) 2 _) 3 _) fun r => by rw [← bits_6, ← Hob.out, ← Huv.out]; simp [Hv'.out])
  · obtain ⟨ob, hob⟩ : ∃ ob, decide (1 < qv + qw) = ob := ⟨_, rfl⟩
    have Hob : Hid (ob = other nT m t x 1 2) := (by rw [← hoth, ← hob]; exact Bool.eq_iff_iff.2 (by simp <;> omega) : ob = other nT m t x 1 2)
    clear hoth hv3
    go_wp2_with (go_at_call 15; refine (Hcall.out _ u _ (by omega) (((hm2.setO hpl Bb 1 hBb (.bool false)).setO hpl Bb 2 hBb (.bool ob)).setO hpl Bb 3 hBb (.bool uv))).mono ?_; rintro e w4 ⟨⟨z, rfl⟩, hm4, hk4⟩)
    refine HQ.out _ _ _ _ _ _ _ _ _ _ _ _ _ _ _ _ _ _ _ _ _ _ _ _ _ _ _ _ _ _ _ _ _ _ _ _ _ _ _ _ _ _ _ _ _ _ _ _ _ _ _ _ _ _ _ _ _ _ _ _ _ _ _ _ _ _ _ _ _ _ _ _ _ _ _ _ _ _ _ _ _ _ _ _ _ _ _ _ _ _ _ _ _ _ _ _ _ _ _ ?_ ?_
    · rw [if_neg (by decide), show after 6 (m t x) = 2 by simp [after]]
      exact hm4
    · exact hk4 _ _ _ hBb (blkCongrB (blkSetB (blkSetB (blkSetB hb2 1 _) 2 _) 3 _) fun r => by rw [← bits_6, ← Hob.out, ← Huv.out]; simp [Hv'.out])
  · obtain ⟨ob, hob⟩ : ∃ ob, decide (1 < qv + qw) = ob := ⟨_, rfl⟩
    have Hob : Hid (ob = other nT m t x 1 2) := (by rw [← hoth, ← hob]; exact Bool.eq_iff_iff.2 (by simp <;> omega) : ob = other nT m t x 1 2)
    clear hoth hv3
    go_wp2_with (go_at_call 15; refine (Hcall.out _ u _ (by omega) (((hm2.setO hpl Bb 1 hBb (.bool true)).setO hpl Bb 2 hBb (.bool ob)).setO hpl Bb 3 hBb (.bool uv))).mono ?_; rintro e w4 ⟨⟨z, rfl⟩, hm4, hk4⟩)
    refine HQ.out _ _ _ _ _ _ _ _ _ _ _ _ _ _ _ _ _ _ _ _ _ _ _ _ _ _ _ _ _ _ _ _ _ _ _ _ _ _ _ _ _ _ _ _ _ _ _ _ _ _ _ _ _ _ _ _ _ _ _ _ _ _ _ _ _ _ _ _ _ _ _ _ _ _ _ _ _ _ _ _ _ _ _ _ _ _ _ _ _ _ _ _ _ _ _ _ _ _ _ ?_ ?_
    · rw [if_neg (by decide), show after 6 (m t x) = 2 by simp [after]]
      exact hm4
    · exact hk4 _ _ _ hBb (blkCongrB (blkSetB (blkSetB (blkSetB hb2 1 _) 2 _) 3 _) fun r => by rw [← bits_6, ← Hob.out, ← Huv.out]; simp [Hv'.out])
  · exact absurd rfl hv3

set_option maxHeartbeats 8000000 in
set_option maxRecDepth 100000 in
theorem check_7 {w w2 : World} {gm gsh gex gu nT nX : Nat} {L : List (Nat × Nat)} {tc : Array Value} {m : Nat → Nat → Int} {u : Nat → Bool} {f : Nat → Int} {W2 : World} {Bo Bb t x q : Nat} {v : Int}
    (hpl : Pl w.heap.size w2.heap.size w2.heap.size gm (gm + 1) gsh (gsh + 1) gex (gex + 1) gu) (htab : Tab L.length nT nX (txL L) (itL L)) (hT : nT ≤ 4) (hX : nX ≤ 3) (ht : t < nT) (hx : x < nX) (hq1 : q < L.length) (hLl : L.length ≤ 4096) (Hqt : Hid (txL L q = t)) (Hqx : Hid (itL L q = x)) (Hv' : Hid (m t x = v)) (hvr : v = 0 ∨ v = 1 ∨ v = 2 ∨ v = 3)
    (Hcall : Hid (∀ (W' : World) (u' : Nat → Bool) (z : Int), (z = 0 ∨ z = 1 ∨ z = 2 ∨ z = 3) → CKR w w2 w.heap.size w2.heap.size w2.heap.size gm (gm + 1) gsh (gsh + 1) gex (gex + 1) gu nT nX L tc m u' f W' → Calls Yba.prog 15 #[.int .i64 q, .int .u8 z, .pointer (some ⟨w2.heap.size, 0, none⟩), .pointer (some ⟨gm + 1, 0, none⟩), .pointer (some ⟨gsh + 1, 0, none⟩), .pointer (some ⟨gex + 1, 0, none⟩)] W' fun e w' => (∃ z, e = .returned z) ∧ CKR w w2 w.heap.size w2.heap.size w2.heap.size gm (gm + 1) gsh (gsh + 1) gex (gex + 1) gu nT nX L tc (put m t x z) u' f w' ∧ ∀ g e cur, gu < g → Blk W' g e cur → Blk w' g e cur))
    (hm2 : CKR w w2 w.heap.size w2.heap.size w2.heap.size gm (gm + 1) gsh (gsh + 1) gex (gex + 1) gu nT nX L tc m u f W2) (ho2 : Blk W2 Bo 34 #[.int .u8 7, .int .i64 (t : Int), .int .i64 (x : Int)]) (hb2 : Blk W2 Bb 67 (bcells fun _ => false)) (hBb : gu < Bb) (hBo : gu < Bo) (hBob : Bo < Bb)
    {K : Act → World → Prop} {Q : Exit → Act → World → Prop} {s0 s1 s2 s3 s4 s5 s6 s11 s13 s14 s18 s19 s20 s21 s22 s23 s24 s25 s26 s27 s28 s29 s30 s31 s32 s33 s34 s35 s36 s37 s38 s39 s40 s41 s42 s43 s44 s45 s46 s47 s48 s49 s50 s51 s52 s53 s54 s55 s56 s57 s58 s59 s60 s61 s62 s63 s64 s65 s66 s67 s68 s69 s70 s71 s72 s73 s74 s75 s76 s77 s78 s79 s80 s81 s82 s83 s84 s85 s86 s87 s88 s89 s90 s91 s92 s93 s94 s95 s96 s97 s98 s99 s100 s101 s103 s104 s105 s106 s107 s108 s109 s110 s111 s112 s113 s114 s115 s116 s117 s118 s119 s120 s121 s122 s123 s124 s125 s126 s127 s128 s129 s130 s131 s132 s133 s134 s135 s136 s137 s138 s139 s140 s141 s142 s143 s144 s145 s146 s147 s148 s149 s150 s151 s152 s153 s154 s155 s156 s157 s158 s159 s160 s161 s162 s163 s164 s165 s166 s167 s168 s169 s170 s171 s172 s173 s174 s175 s176 s177 s178 s179 s180 s181 s182 s183 s184 s185 s186 s187 s188 s189 s190 s191 s192 s193 s194 s195 s196 s197 s198 : Value} {rest : List Value}
    (HQ : Hid (∀ (wc : World) (v18 v19 v103 v104 v105 v106 v107 v108 v109 v110 v111 v112 v113 v114 v115 v116 v117 v118 v119 v120 v121 v122 v123 v124 v125 v126 v127 v128 v129 v130 v131 v132 v133 v134 v135 v136 v137 v138 v139 v140 v141 v142 v143 v144 v145 v146 v147 v148 v149 v150 v151 v152 v153 v154 v155 v156 v157 v158 v159 v160 v161 v162 v163 v164 v165 v166 v167 v168 v169 v170 v171 v172 v173 v174 v175 v176 v177 v178 v179 v180 v181 v182 v183 v184 v185 v186 v187 v188 v189 v190 v191 v192 v193 v194 v195 v196 v197 v198 : Value), CKR w w2 w.heap.size w2.heap.size w2.heap.size gm (gm + 1) gsh (gsh + 1) gex (gex + 1) gu nT nX L tc (put m t x (after 7 (m t x))) (if (7 : Int) = 7 then putB u t true else u) f wc → Blk wc Bb 67 (bcells (bits nT ⟨m, u, f⟩ 7 t x)) → K ⟨(s0 :: s1 :: s2 :: s3 :: s4 :: s5 :: s6 :: (.pointer (some ⟨gsh + 1, 0, none⟩)) :: (.pointer (some ⟨gex + 1, 0, none⟩)) :: (.slice (some ⟨gu, 0, none⟩) nT nT) :: (.func (.func 15) #[] #[.pointer (some ⟨w2.heap.size, 0, none⟩), .pointer (some ⟨gm + 1, 0, none⟩), .pointer (some ⟨gsh + 1, 0, none⟩), .pointer (some ⟨gex + 1, 0, none⟩)]) :: s11 :: (.pointer (some ⟨Bo, 0, none⟩)) :: s13 :: s14 :: (.int .i64 (q : Int)) :: (.int .u8 v) :: (.pointer (some ⟨Bb, 0, none⟩)) :: v18 :: v19 :: s20 :: s21 :: s22 :: s23 :: s24 :: s25 :: s26 :: s27 :: s28 :: s29 :: s30 :: s31 :: s32 :: s33 :: s34 :: s35 :: s36 :: s37 :: s38 :: s39 :: s40 :: s41 :: s42 :: s43 :: s44 :: s45 :: s46 :: s47 :: s48 :: s49 :: s50 :: s51 :: s52 :: s53 :: s54 :: s55 :: s56 :: s57 :: s58 :: s59 :: s60 :: s61 :: s62 :: s63 :: s64 :: s65 :: s66 :: s67 :: s68 :: s69 :: s70 :: s71 :: s72 :: s73 :: s74 :: s75 :: s76 :: s77 :: s78 :: s79 :: s80 :: s81 :: s82 :: s83 :: s84 :: s85 :: s86 :: s87 :: s88 :: s89 :: s90 :: s91 :: s92 :: s93 :: s94 :: s95 :: s96 :: s97 :: s98 :: s99 :: s100 :: s101 :: (.int .u8 7) :: v103 :: v104 :: v105 :: v106 :: v107 :: v108 :: v109 :: v110 :: v111 :: v112 :: v113 :: v114 :: v115 :: v116 :: v117 :: v118 :: v119 :: v120 :: v121 :: v122 :: v123 :: v124 :: v125 :: v126 :: v127 :: v128 :: v129 :: v130 :: v131 :: v132 :: v133 :: v134 :: v135 :: v136 :: v137 :: v138 :: v139 :: v140 :: v141 :: v142 :: v143 :: v144 :: v145 :: v146 :: v147 :: v148 :: v149 :: v150 :: v151 :: v152 :: v153 :: v154 :: v155 :: v156 :: v157 :: v158 :: v159 :: v160 :: v161 :: v162 :: v163 :: v164 :: v165 :: v166 :: v167 :: v168 :: v169 :: v170 :: v171 :: v172 :: v173 :: v174 :: v175 :: v176 :: v177 :: v178 :: v179 :: v180 :: v181 :: v182 :: v183 :: v184 :: v185 :: v186 :: v187 :: v188 :: v189 :: v190 :: v191 :: v192 :: v193 :: v194 :: v195 :: v196 :: v197 :: v198 :: rest).toArray, []⟩ wc)) :
    Code.wp Yba.prog (blk6 6) (Exit.then K Q) ⟨(s0 :: s1 :: s2 :: s3 :: s4 :: s5 :: s6 :: (.pointer (some ⟨gsh + 1, 0, none⟩)) :: (.pointer (some ⟨gex + 1, 0, none⟩)) :: (.slice (some ⟨gu, 0, none⟩) nT nT) :: (.func (.func 15) #[] #[.pointer (some ⟨w2.heap.size, 0, none⟩), .pointer (some ⟨gm + 1, 0, none⟩), .pointer (some ⟨gsh + 1, 0, none⟩), .pointer (some ⟨gex + 1, 0, none⟩)]) :: s11 :: (.pointer (some ⟨Bo, 0, none⟩)) :: s13 :: s14 :: (.int .i64 (q : Int)) :: (.int .u8 v) :: (.pointer (some ⟨Bb, 0, none⟩)) :: s18 :: s19 :: s20 :: s21 :: s22 :: s23 :: s24 :: s25 :: s26 :: s27 :: s28 :: s29 :: s30 :: s31 :: s32 :: s33 :: s34 :: s35 :: s36 :: s37 :: s38 :: s39 :: s40 :: s41 :: s42 :: s43 :: s44 :: s45 :: s46 :: s47 :: s48 :: s49 :: s50 :: s51 :: s52 :: s53 :: s54 :: s55 :: s56 :: s57 :: s58 :: s59 :: s60 :: s61 :: s62 :: s63 :: s64 :: s65 :: s66 :: s67 :: s68 :: s69 :: s70 :: s71 :: s72 :: s73 :: s74 :: s75 :: s76 :: s77 :: s78 :: s79 :: s80 :: s81 :: s82 :: s83 :: s84 :: s85 :: s86 :: s87 :: s88 :: s89 :: s90 :: s91 :: s92 :: s93 :: s94 :: s95 :: s96 :: s97 :: s98 :: s99 :: s100 :: s101 :: (.int .u8 7) :: s103 :: s104 :: s105 :: s106 :: s107 :: s108 :: s109 :: s110 :: s111 :: s112 :: s113 :: s114 :: s115 :: s116 :: s117 :: s118 :: s119 :: s120 :: s121 :: s122 :: s123 :: s124 :: s125 :: s126 :: s127 :: s128 :: s129 :: s130 :: s131 :: s132 :: s133 :: s134 :: s135 :: s136 :: s137 :: s138 :: s139 :: s140 :: s141 :: s142 :: s143 :: s144 :: s145 :: s146 :: s147 :: s148 :: s149 :: s150 :: s151 :: s152 :: s153 :: s154 :: s155 :: s156 :: s157 :: s158 :: s159 :: s160 :: s161 :: s162 :: s163 :: s164 :: s165 :: s166 :: s167 :: s168 :: s169 :: s170 :: s171 :: s172 :: s173 :: s174 :: s175 :: s176 :: s177 :: s178 :: s179 :: s180 :: s181 :: s182 :: s183 :: s184 :: s185 :: s186 :: s187 :: s188 :: s189 :: s190 :: s191 :: s192 :: s193 :: s194 :: s195 :: s196 :: s197 :: s198 :: rest).toArray, []⟩ W2 := by
  conv => arg 2; whnf
  have k1 := ho2.cellOf (j := 1) rfl
  have k2 := ho2.cellOf (j := 2) rfl
  have bf1 := hb2.frozen 1
  have bc1 := hb2.cellOf (bcells_get _ (t := 1) (by omega))
  have bf2 := hb2.frozen 2
  have bc2 := hb2.cellOf (bcells_get _ (t := 2) (by omega))
  have bf3 := hb2.frozen 3
  have bc3 := hb2.cellOf (bcells_get _ (t := 3) (by omega))
  have bf4 := hb2.frozen 4
  have bc4 := hb2.cellOf (bcells_get _ (t := 4) (by omega))
  have bf5 := hb2.frozen 5
  have bc5 := hb2.cellOf (bcells_get _ (t := 5) (by omega))
  have cu := hm2.un.cellOf (bools_get u ht)
  have fu := hm2.un.frozen t
  have hguB : gu ≠ Bb := by omega
  obtain ⟨uv, huv⟩ : ∃ uv, u t = uv := ⟨_, rfl⟩
  have Huv : Hid (u t = uv) := huv
  rw [huv] at cu
  clear huv
  rcases hvr with rfl | rfl | rfl | rfl
  · go_wp2_with (go_at_call 15; refine (Hcall.out _ (putB u t true) _ (by omega) ((((hm2.setO hpl Bb 1 hBb (.bool true)).setO hpl Bb 4 hBb (.bool false)).setO hpl Bb 5 hBb (.bool false)).setU hpl t true)).mono ?_; rintro e w4 ⟨⟨z, rfl⟩, hm4, hk4⟩)
    refine HQ.out _ _ _ _ _ _ _ _ _ _ _ _ _ _ _ _ _ _ _ _ _ _ _ _ _ _ _ _ _ _ _ _ _ _ _ _ _ _ _ _ _ _ _ _ _ _ _ _ _ _ _ _ _ _ _ _ _ _ _ _ _ _ _ _ _ _ _ _ _ _ _ _ _ _ _ _ _ _ _ _ _ _ _ _ _ _ _ _ _ _ _ _ _ _ _ _ _ _ _ ?_ ?_
    · rw [if_pos trivial, show after 7 (m t x) = 0 by simp [after]]
      exact hm4
    · exact hk4 _ _ _ hBb (Blk.setOther (a := ⟨gu, t, none⟩) (blkCongrB (blkSetB (blkSetB (blkSetB hb2 1 _) 4 _) 5 _) fun r => by rw [← bits_7]; simp [Hv'.out]) (Ne.symm hguB) _)
  · go_wp2_with (go_at_call 15; refine (Hcall.out _ (putB u t true) _ (by omega) ((((hm2.setO hpl Bb 1 hBb (.bool false)).setO hpl Bb 4 hBb (.bool false)).setO hpl Bb 5 hBb (.bool true)).setU hpl t true)).mono ?_; rintro e w4 ⟨⟨z, rfl⟩, hm4, hk4⟩)
    refine HQ.out _ _ _ _ _ _ _ _ _ _ _ _ _ _ _ _ _ _ _ _ _ _ _ _ _ _ _ _ _ _ _ _ _ _ _ _ _ _ _ _ _ _ _ _ _ _ _ _ _ _ _ _ _ _ _ _ _ _ _ _ _ _ _ _ _ _ _ _ _ _ _ _ _ _ _ _ _ _ _ _ _ _ _ _ _ _ _ _ _ _ _ _ _ _ _ _ _ _ _ ?_ ?_
    · rw [if_pos trivial, show after 7 (m t x) = 0 by simp [after]]
      exact hm4
    · exact hk4 _ _ _ hBb (Blk.setOther (a := ⟨gu, t, none⟩) (blkCongrB (blkSetB (blkSetB (blkSetB hb2 1 _) 4 _) 5 _) fun r => by rw [← bits_7]; simp [Hv'.out]) (Ne.symm hguB) _)
  · go_wp2_with (go_at_call 15; refine (Hcall.out _ (putB u t true) _ (by omega) ((((hm2.setO hpl Bb 1 hBb (.bool false)).setO hpl Bb 4 hBb (.bool true)).setO hpl Bb 5 hBb (.bool true)).setU hpl t true)).mono ?_; rintro e w4 ⟨⟨z, rfl⟩, hm4, hk4⟩)
    refine HQ.out _ _ _ _ _ _ _ _ _ _ _ _ _ _ _ _ _ _ _ _ _ _ _ _ _ _ _ _ _ _ _ _ _ _ _ _ _ _ _ _ _ _ _ _ _ _ _ _ _ _ _ _ _ _ _ _ _ _ _ _ _ _ _ _ _ _ _ _ _ _ _ _ _ _ _ _ _ _ _ _ _ _ _ _ _ _ _ _ _ _ _ _ _ _ _ _ _ _ _ ?_ ?_
    · rw [if_pos trivial, show after 7 (m t x) = 0 by simp [after]]
      exact hm4
    · exact hk4 _ _ _ hBb (Blk.setOther (a := ⟨gu, t, none⟩) (blkCongrB (blkSetB (blkSetB (blkSetB hb2 1 _) 4 _) 5 _) fun r => by rw [← bits_7]; simp [Hv'.out]) (Ne.symm hguB) _)
  · go_wp2_with (go_at_call 15; refine (Hcall.out _ (putB u t true) _ (by omega) ((((hm2.setO hpl Bb 1 hBb (.bool false)).setO hpl Bb 4 hBb (.bool false)).setO hpl Bb 5 hBb (.bool false)).setU hpl t true)).mono ?_; rintro e w4 ⟨⟨z, rfl⟩, hm4, hk4⟩)
    refine HQ.out _ _ _ _ _ _ _ _ _ _ _ _ _ _ _ _ _ _ _ _ _ _ _ _ _ _ _ _ _ _ _ _ _ _ _ _ _ _ _ _ _ _ _ _ _ _ _ _ _ _ _ _ _ _ _ _ _ _ _ _ _ _ _ _ _ _ _ _ _ _ _ _ _ _ _ _ _ _ _ _ _ _ _ _ _ _ _ _ _ _ _ _ _ _ _ _ _ _ _ ?_ ?_
    · rw [if_pos trivial, show after 7 (m t x) = 0 by simp [after]]
      exact hm4
    · exact hk4 _ _ _ hBb (Blk.setOther (a := ⟨gu, t, none⟩) (blkCongrB (blkSetB (blkSetB (blkSetB hb2 1 _) 4 _) 5 _) fun r => by rw [← bits_7]; simp [Hv'.out]) (Ne.symm hguB) _)
end Go.Proofs.Ybulkri.A
