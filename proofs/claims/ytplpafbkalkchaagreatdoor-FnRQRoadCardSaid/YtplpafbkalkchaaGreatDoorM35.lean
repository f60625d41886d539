/-
  Parts of the proof (R14).
-/
import Derived.Test.YtplpafbkalkchaaGreatDoorM33
set_option linter.unusedSimpArgs false
set_option linter.unusedVariables false

namespace Go.Proofs.YtplpafbkalkchaaGreatDoor
open Go.RowKit

noncomputable def reg14 : Code := ((Tryz.f144.body.bind (regionOf 14)).getD .skip)

set_option maxRecDepth 1000000 in
set_option maxHeartbeats 8000000 in
theorem r14_ok (Q0 : Exit → Act → World → Prop) (b m n k j : Nat) (g : Nat → Nat) (f : Nat → Nat → Int) (w : World) (x0 x1 x2 x3 x9 x10 x11 x12 x13 x14 x15 x16 x17 x18 x19 x20 x21 x22 x23 x24 x25 x26 x27 x28 x29 x30 x31 x32 x33 x34 x35 x36 x37 x38 x39 x40 x41 x42 x43 x44 x45 x46 x47 x48 x49 x50 x51 x52 x53 x54 x55 x56 x57 x58 x59 x60 x61 x62 x63 x64 x65 x66 x67 x68 x69 x70 x71 x72 x73 x74 x75 x76 x77 x78 x79 x80 x81 x82 x83 x84 x85 x86 x87 x88 x89 x90 x91 x92 x93 x94 x95 x96 x97 x98 x99 x100 x101 x102 x103 x104 x105 x106 x107 x108 x109 x110 x111 x112 x113 x114 x115 x116 x117 x118 x119 x120 x121 x122 x123 x124 x125 x126 x127 x128 x129 x130 x131 x132 x133 x134 x135 x136 x137 x138 x139 x140 x141 x142 x143 x144 x145 x146 x147 x148 x149 x150 x151 x152 x153 x154 x155 x156 x157 x158 x159 x160 x161 x162 x163 x164 x165 x166 x167 x168 x169 x170 x171 x172 x173 x174 x175 x176 x177 x178 x179 x180 x181 x182 x183 x184 x185 x186 x187 x188 x189 x190 x191 x192 x193 x194 x195 x196 x197 x198 x199 x200 x201 x202 x203 x204 x205 x206 : Value)
    (h : YM w b m n g f) (hn : n ≤ 100) (hkn : k < n) (hjn : j < n)
    (hexit : ∀ (t : Bool) (v106 v107 v108 v109 v110 v111 v112 v113 v114 v115 v116 v117 v118 v119 v120 v121 v122 v123 v124 v125 v126 v127 v128 v129 v130 v131 v132 v133 v134 v135 v136 v137 v138 v139 v140 v141 v142 v143 v144 v145 v146 v147 v148 v149 v150 v151 v152 v153 v154 v155 v156 v157 v158 v159 v160 v161 v162 v163 v164 v165 v166 v167 v168 v169 v170 v171 v172 v173 v174 v175 v176 v177 v178 v179 v180 v181 v182 v183 v184 v185 v186 v187 v188 v189 v190 v191 v192 v193 v194 v195 v196 v197 v198 v199 v200 v201 : Value), Q0 .normal ⟨(List.toArray (x0 :: x1 :: x2 :: x3 :: .slice (some ⟨m, 0, none⟩) n n :: .int .i64 (n : Int) :: .int .i64 (n : Int) :: .int .i64 (k : Int) :: .int .i64 (j : Int) :: x9 :: x10 :: x11 :: x12 :: x13 :: x14 :: x15 :: x16 :: x17 :: x18 :: x19 :: x20 :: x21 :: x22 :: x23 :: x24 :: x25 :: x26 :: x27 :: x28 :: x29 :: x30 :: x31 :: x32 :: x33 :: x34 :: x35 :: x36 :: x37 :: x38 :: x39 :: x40 :: x41 :: x42 :: x43 :: x44 :: x45 :: x46 :: x47 :: x48 :: x49 :: x50 :: x51 :: x52 :: x53 :: x54 :: x55 :: x56 :: x57 :: x58 :: x59 :: x60 :: x61 :: x62 :: x63 :: x64 :: x65 :: x66 :: x67 :: x68 :: x69 :: x70 :: x71 :: x72 :: x73 :: x74 :: x75 :: x76 :: x77 :: x78 :: x79 :: x80 :: x81 :: x82 :: x83 :: x84 :: x85 :: x86 :: x87 :: x88 :: x89 :: x90 :: x91 :: x92 :: x93 :: x94 :: x95 :: x96 :: x97 :: x98 :: x99 :: x100 :: x101 :: x102 :: x103 :: x104 :: x105 :: v106 :: v107 :: v108 :: v109 :: v110 :: v111 :: v112 :: v113 :: v114 :: v115 :: v116 :: v117 :: v118 :: v119 :: v120 :: v121 :: v122 :: v123 :: v124 :: v125 :: v126 :: v127 :: v128 :: v129 :: v130 :: v131 :: v132 :: v133 :: v134 :: v135 :: v136 :: v137 :: v138 :: v139 :: v140 :: v141 :: v142 :: v143 :: v144 :: v145 :: v146 :: v147 :: v148 :: v149 :: v150 :: v151 :: v152 :: v153 :: v154 :: v155 :: v156 :: v157 :: v158 :: v159 :: v160 :: v161 :: v162 :: v163 :: v164 :: v165 :: v166 :: v167 :: v168 :: v169 :: v170 :: v171 :: v172 :: v173 :: v174 :: v175 :: v176 :: v177 :: v178 :: v179 :: v180 :: v181 :: v182 :: v183 :: v184 :: v185 :: v186 :: v187 :: v188 :: v189 :: v190 :: v191 :: v192 :: v193 :: v194 :: v195 :: v196 :: v197 :: v198 :: v199 :: v200 :: v201 :: .bool t :: x203 :: x204 :: x205 :: x206 :: [])), []⟩ w) :
    Code.wp Tryz.prog reg14 Q0 ⟨(List.toArray (x0 :: x1 :: x2 :: x3 :: .slice (some ⟨m, 0, none⟩) n n :: .int .i64 (n : Int) :: .int .i64 (n : Int) :: .int .i64 (k : Int) :: .int .i64 (j : Int) :: x9 :: x10 :: x11 :: x12 :: x13 :: x14 :: x15 :: x16 :: x17 :: x18 :: x19 :: x20 :: x21 :: x22 :: x23 :: x24 :: x25 :: x26 :: x27 :: x28 :: x29 :: x30 :: x31 :: x32 :: x33 :: x34 :: x35 :: x36 :: x37 :: x38 :: x39 :: x40 :: x41 :: x42 :: x43 :: x44 :: x45 :: x46 :: x47 :: x48 :: x49 :: x50 :: x51 :: x52 :: x53 :: x54 :: x55 :: x56 :: x57 :: x58 :: x59 :: x60 :: x61 :: x62 :: x63 :: x64 :: x65 :: x66 :: x67 :: x68 :: x69 :: x70 :: x71 :: x72 :: x73 :: x74 :: x75 :: x76 :: x77 :: x78 :: x79 :: x80 :: x81 :: x82 :: x83 :: x84 :: x85 :: x86 :: x87 :: x88 :: x89 :: x90 :: x91 :: x92 :: x93 :: x94 :: x95 :: x96 :: x97 :: x98 :: x99 :: x100 :: x101 :: x102 :: x103 :: x104 :: x105 :: x106 :: x107 :: x108 :: x109 :: x110 :: x111 :: x112 :: x113 :: x114 :: x115 :: x116 :: x117 :: x118 :: x119 :: x120 :: x121 :: x122 :: x123 :: x124 :: x125 :: x126 :: x127 :: x128 :: x129 :: x130 :: x131 :: x132 :: x133 :: x134 :: x135 :: x136 :: x137 :: x138 :: x139 :: x140 :: x141 :: x142 :: x143 :: x144 :: x145 :: x146 :: x147 :: x148 :: x149 :: x150 :: x151 :: x152 :: x153 :: x154 :: x155 :: x156 :: x157 :: x158 :: x159 :: x160 :: x161 :: x162 :: x163 :: x164 :: x165 :: x166 :: x167 :: x168 :: x169 :: x170 :: x171 :: x172 :: x173 :: x174 :: x175 :: x176 :: x177 :: x178 :: x179 :: x180 :: x181 :: x182 :: x183 :: x184 :: x185 :: x186 :: x187 :: x188 :: x189 :: x190 :: x191 :: x192 :: x193 :: x194 :: x195 :: x196 :: x197 :: x198 :: x199 :: x200 :: x201 :: x202 :: x203 :: x204 :: x205 :: x206 :: [])), []⟩ w := by
  have HH := Lib.hid h
  have HE := Lib.hid hexit
  clear h hexit
  have hk2 : (k : Int) < (n : Int) := by omega
  have hj2 : (j : Int) < (n : Int) := by omega
  have a1 := HH.out.slot hkn
  conv => arg 2; whnf
  by_cases h6 : k + 6 < n
  · have h6i : (k : Int) + 6 < (n : Int) := by omega
    have h11i : (k : Int) + 1 < (n : Int) := by omega
    have h12i : (k : Int) + 2 < (n : Int) := by omega
    have h13i : (k : Int) + 3 < (n : Int) := by omega
    have h14i : (k : Int) + 4 < (n : Int) := by omega
    have h15i : (k : Int) + 5 < (n : Int) := by omega
    have c0 := HH.out.dot hjn (show k < n by omega)
    obtain ⟨u0, hu0⟩ : ∃ u, f j k = u := ⟨_, rfl⟩
    rw [hu0] at c0
    clear hu0
    have d1 := HH.out.slot (show k + 1 < n by omega)
    have c1 := HH.out.dot hjn (show k + 1 < n by omega)
    obtain ⟨u1, hu1⟩ : ∃ u, f j (k + 1) = u := ⟨_, rfl⟩
    rw [hu1] at c1
    clear hu1
    have d2 := HH.out.slot (show k + 2 < n by omega)
    have c2 := HH.out.dot hjn (show k + 2 < n by omega)
    obtain ⟨u2, hu2⟩ : ∃ u, f j (k + 2) = u := ⟨_, rfl⟩
    rw [hu2] at c2
    clear hu2
    have d3 := HH.out.slot (show k + 3 < n by omega)
    have c3 := HH.out.dot hjn (show k + 3 < n by omega)
    obtain ⟨u3, hu3⟩ : ∃ u, f j (k + 3) = u := ⟨_, rfl⟩
    rw [hu3] at c3
    clear hu3
    have d4 := HH.out.slot (show k + 4 < n by omega)
    have c4 := HH.out.dot hjn (show k + 4 < n by omega)
    obtain ⟨u4, hu4⟩ : ∃ u, f j (k + 4) = u := ⟨_, rfl⟩
    rw [hu4] at c4
    clear hu4
    have d5 := HH.out.slot (show k + 5 < n by omega)
    have c5 := HH.out.dot hjn (show k + 5 < n by omega)
    obtain ⟨u5, hu5⟩ : ∃ u, f j (k + 5) = u := ⟨_, rfl⟩
    rw [hu5] at c5
    clear hu5
    have d6 := HH.out.slot (show k + 6 < n by omega)
    have c6 := HH.out.dot hjn (show k + 6 < n by omega)
    obtain ⟨u6, hu6⟩ : ∃ u, f j (k + 6) = u := ⟨_, rfl⟩
    rw [hu6] at c6
    clear hu6
    obtain ⟨t0, ht0⟩ : ∃ t, (u0 == 1) = t := ⟨_, rfl⟩
    obtain ⟨t1, ht1⟩ : ∃ t, (u1 == 0) = t := ⟨_, rfl⟩
    obtain ⟨t2, ht2⟩ : ∃ t, (u2 == 1) = t := ⟨_, rfl⟩
    obtain ⟨t3, ht3⟩ : ∃ t, (u3 == 1) = t := ⟨_, rfl⟩
    obtain ⟨t4, ht4⟩ : ∃ t, (u4 == 1) = t := ⟨_, rfl⟩
    obtain ⟨t5, ht5⟩ : ∃ t, (u5 == 0) = t := ⟨_, rfl⟩
    obtain ⟨t6, ht6⟩ : ∃ t, (u6 == 1) = t := ⟨_, rfl⟩
    cases t0
    · as_aux_lemma =>
        refine wp_region_quiet0 ?_
        try simp only [List.append_eq, List.cons_append, List.nil_append]
        repeat (first | go_big_quiet_skip | (go_big_quiet_want; go_big_quiet_op; go_big_quiet_on))
        refine wpQuiet_nil ?_
        intro _ hw'
        subst hw'
        exact HE.out _ _ _ _ _ _ _ _ _ _ _ _ _ _ _ _ _ _ _ _ _ _ _ _ _ _ _ _ _ _ _ _ _ _ _ _ _ _ _ _ _ _ _ _ _ _ _ _ _ _ _ _ _ _ _ _ _ _ _ _ _ _ _ _ _ _ _ _ _ _ _ _ _ _ _ _ _ _ _ _ _ _ _ _ _ _ _ _ _ _ _ _ _ _ _ _ _
    cases t1
    · as_aux_lemma =>
        refine wp_region_quiet0 ?_
        try simp only [List.append_eq, List.cons_append, List.nil_append]
        repeat (first | go_big_quiet_skip | (go_big_quiet_want; go_big_quiet_op; go_big_quiet_on))
        refine wpQuiet_nil ?_
        intro _ hw'
        subst hw'
        exact HE.out _ _ _ _ _ _ _ _ _ _ _ _ _ _ _ _ _ _ _ _ _ _ _ _ _ _ _ _ _ _ _ _ _ _ _ _ _ _ _ _ _ _ _ _ _ _ _ _ _ _ _ _ _ _ _ _ _ _ _ _ _ _ _ _ _ _ _ _ _ _ _ _ _ _ _ _ _ _ _ _ _ _ _ _ _ _ _ _ _ _ _ _ _ _ _ _ _
    cases t2
    · as_aux_lemma =>
        refine wp_region_quiet0 ?_
        try simp only [List.append_eq, List.cons_append, List.nil_append]
        repeat (first | go_big_quiet_skip | (go_big_quiet_want; go_big_quiet_op; go_big_quiet_on))
        refine wpQuiet_nil ?_
        intro _ hw'
        subst hw'
        exact HE.out _ _ _ _ _ _ _ _ _ _ _ _ _ _ _ _ _ _ _ _ _ _ _ _ _ _ _ _ _ _ _ _ _ _ _ _ _ _ _ _ _ _ _ _ _ _ _ _ _ _ _ _ _ _ _ _ _ _ _ _ _ _ _ _ _ _ _ _ _ _ _ _ _ _ _ _ _ _ _ _ _ _ _ _ _ _ _ _ _ _ _ _ _ _ _ _ _
    cases t3
    · as_aux_lemma =>
        refine wp_region_quiet0 ?_
        try simp only [List.append_eq, List.cons_append, List.nil_append]
        repeat (first | go_big_quiet_skip | (go_big_quiet_want; go_big_quiet_op; go_big_quiet_on))
        refine wpQuiet_nil ?_
        intro _ hw'
        subst hw'
        exact HE.out _ _ _ _ _ _ _ _ _ _ _ _ _ _ _ _ _ _ _ _ _ _ _ _ _ _ _ _ _ _ _ _ _ _ _ _ _ _ _ _ _ _ _ _ _ _ _ _ _ _ _ _ _ _ _ _ _ _ _ _ _ _ _ _ _ _ _ _ _ _ _ _ _ _ _ _ _ _ _ _ _ _ _ _ _ _ _ _ _ _ _ _ _ _ _ _ _
    cases t4
    · as_aux_lemma =>
        refine wp_region_quiet0 ?_
        try simp only [List.append_eq, List.cons_append, List.nil_append]
        repeat (first | go_big_quiet_skip | (go_big_quiet_want; go_big_quiet_op; go_big_quiet_on))
        refine wpQuiet_nil ?_
        intro _ hw'
        subst hw'
        exact HE.out _ _ _ _ _ _ _ _ _ _ _ _ _ _ _ _ _ _ _ _ _ _ _ _ _ _ _ _ _ _ _ _ _ _ _ _ _ _ _ _ _ _ _ _ _ _ _ _ _ _ _ _ _ _ _ _ _ _ _ _ _ _ _ _ _ _ _ _ _ _ _ _ _ _ _ _ _ _ _ _ _ _ _ _ _ _ _ _ _ _ _ _ _ _ _ _ _
    cases t5
    · as_aux_lemma =>
        refine wp_region_quiet0 ?_
        try simp only [List.append_eq, List.cons_append, List.nil_append]
        repeat (first | go_big_quiet_skip | (go_big_quiet_want; go_big_quiet_op; go_big_quiet_on))
        refine wpQuiet_nil ?_
        intro _ hw'
        subst hw'
        exact HE.out _ _ _ _ _ _ _ _ _ _ _ _ _ _ _ _ _ _ _ _ _ _ _ _ _ _ _ _ _ _ _ _ _ _ _ _ _ _ _ _ _ _ _ _ _ _ _ _ _ _ _ _ _ _ _ _ _ _ _ _ _ _ _ _ _ _ _ _ _ _ _ _ _ _ _ _ _ _ _ _ _ _ _ _ _ _ _ _ _ _ _ _ _ _ _ _ _
    cases t6
    · as_aux_lemma =>
        refine wp_region_quiet0 ?_
        try simp only [List.append_eq, List.cons_append, List.nil_append]
        repeat (first | go_big_quiet_skip | (go_big_quiet_want; go_big_quiet_op; go_big_quiet_on))
        refine wpQuiet_nil ?_
        intro _ hw'
        subst hw'
        exact HE.out _ _ _ _ _ _ _ _ _ _ _ _ _ _ _ _ _ _ _ _ _ _ _ _ _ _ _ _ _ _ _ _ _ _ _ _ _ _ _ _ _ _ _ _ _ _ _ _ _ _ _ _ _ _ _ _ _ _ _ _ _ _ _ _ _ _ _ _ _ _ _ _ _ _ _ _ _ _ _ _ _ _ _ _ _ _ _ _ _ _ _ _ _ _ _ _ _
    obtain ⟨e1, he1⟩ : ∃ t, whB (fun i => f j i) ((k : Int) - 4).toNat (min (k : Int).toNat n) = t := ⟨_, rfl⟩
    obtain ⟨e2, he2⟩ : ∃ t, whB (fun i => f j i) ((k : Int) + 7).toNat (min ((k : Int) + 11).toNat n) = t := ⟨_, rfl⟩
    have k1 := Lib.hid (whiteV_ok b m n j g f w HH.out hn hjn ((k : Int) - 4) (k : Int) (by omega) (by omega) (by omega) (by omega))
    have k2 := Lib.hid (whiteV_ok b m n j g f w HH.out hn hjn ((k : Int) + 7) ((k : Int) + 11) (by omega) (by omega) (by omega) (by omega))
    rw [he1] at k1
    rw [he2] at k2
    clear he1 he2
    cases e1
    · as_aux_lemma =>
        refine wp_region_quiet0 ?_
        try simp only [List.append_eq, List.cons_append, List.nil_append]
        repeat (first | go_big_quiet_skip | (go_big_quiet_want; go_big_quiet_op; go_big_quiet_on))
        go_big_quiet_want
        go_big_quiet_op
        apply Exists.intro
        refine ⟨?_, ?_⟩
        · exact k1.out.mono (fun e w h => ⟨h.1, h.2.symm⟩)
        go_big_quiet_on
        repeat (first | go_big_quiet_skip | (go_big_quiet_want; go_big_quiet_op; go_big_quiet_on))
        go_big_quiet_want
        go_big_quiet_op
        apply Exists.intro
        refine ⟨?_, ?_⟩
        · exact k2.out.mono (fun e w h => ⟨h.1, h.2.symm⟩)
        go_big_quiet_on
        repeat (first | go_big_quiet_skip | (go_big_quiet_want; go_big_quiet_op; go_big_quiet_on))
        refine wpQuiet_nil ?_
        intro _ hw'
        subst hw'
        exact HE.out _ _ _ _ _ _ _ _ _ _ _ _ _ _ _ _ _ _ _ _ _ _ _ _ _ _ _ _ _ _ _ _ _ _ _ _ _ _ _ _ _ _ _ _ _ _ _ _ _ _ _ _ _ _ _ _ _ _ _ _ _ _ _ _ _ _ _ _ _ _ _ _ _ _ _ _ _ _ _ _ _ _ _ _ _ _ _ _ _ _ _ _ _ _ _ _ _
    · as_aux_lemma =>
        refine wp_region_quiet0 ?_
        try simp only [List.append_eq, List.cons_append, List.nil_append]
        repeat (first | go_big_quiet_skip | (go_big_quiet_want; go_big_quiet_op; go_big_quiet_on))
        go_big_quiet_want
        go_big_quiet_op
        apply Exists.intro
        refine ⟨?_, ?_⟩
        · exact k1.out.mono (fun e w h => ⟨h.1, h.2.symm⟩)
        go_big_quiet_on
        repeat (first | go_big_quiet_skip | (go_big_quiet_want; go_big_quiet_op; go_big_quiet_on))
        refine wpQuiet_nil ?_
        intro _ hw'
        subst hw'
        exact HE.out _ _ _ _ _ _ _ _ _ _ _ _ _ _ _ _ _ _ _ _ _ _ _ _ _ _ _ _ _ _ _ _ _ _ _ _ _ _ _ _ _ _ _ _ _ _ _ _ _ _ _ _ _ _ _ _ _ _ _ _ _ _ _ _ _ _ _ _ _ _ _ _ _ _ _ _ _ _ _ _ _ _ _ _ _ _ _ _ _ _ _ _ _ _ _ _ _
  · have h6i : ¬ (k : Int) + 6 < (n : Int) := by omega
    have h6d : decide ((k : Int) + 6 < (n : Int)) = false := decide_eq_false h6i
    as_aux_lemma =>
      refine wp_region_quiet0 ?_
      try simp only [List.append_eq, List.cons_append, List.nil_append]
      repeat (first | go_big_quiet_skip | (go_big_quiet_want; go_big_quiet_op; go_big_quiet_on))
      refine wpQuiet_nil ?_
      intro _ hw'
      subst hw'
      exact HE.out _ _ _ _ _ _ _ _ _ _ _ _ _ _ _ _ _ _ _ _ _ _ _ _ _ _ _ _ _ _ _ _ _ _ _ _ _ _ _ _ _ _ _ _ _ _ _ _ _ _ _ _ _ _ _ _ _ _ _ _ _ _ _ _ _ _ _ _ _ _ _ _ _ _ _ _ _ _ _ _ _ _ _ _ _ _ _ _ _ _ _ _ _ _ _ _ _

end Go.Proofs.YtplpafbkalkchaaGreatDoor
