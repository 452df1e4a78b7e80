import PyProof.Rows.All
import Wide.All
import OpenK.AllK
import Wide.FinOn
import Lean
import PySem.Challenge.RW_ny0280_01
open PySem PySem.W PyProof.Rows
set_option Elab.async false
namespace N1
set_option maxRecDepth 100000
set_option maxHeartbeats 0
set_option genInjectivity false
set_option genSizeOf false
set_option linter.all false
set_option linter.unusedVariables false
section
local macro_rules | `(tactic| o_head $_) => `(tactic| assumption)
/-- only made for the constant that holds the text's own objects -/
theorem hk (h : PySem.Challenge.rw_ny0280_01.row.Holds) : PySem.Challenge.rw_ny0280_01.row.Holds := by
  x_head
end
open PySem.W.X
local macro_rules | `(tactic| walk_at $s:str) => `(tactic| k_extra $s)
section
theorem saidV : OpenLaw.wellSaid PySem.Challenge.rw_ny0280_01 = true := by
  first
  | exact (congrFun PySem.W.Fast.te9446332074065402090 _).trans (by kernel_rfl)
  | kernel_rfl
noncomputable def qv : Program := { PySem.Challenge.pw_ny0280_01 with main := { PySem.Challenge.pw_ny0280_01.main with body := PySem.Challenge.pw_ny0280_01.main.body.take 1 ++ PySem.Challenge.pw_ny0280_01.main.body.drop 41 } }
noncomputable def looseV : List Str := [Str.ofString "cmp_to_key", Str.ofString "_initial_missing", Str.ofString "reduce", Str.ofString "S_IFMT", Str.ofString "S_IFDIR", Str.ofString "S_IFCHR", Str.ofString "S_IFBLK", Str.ofString "S_IFREG", Str.ofString "S_IFIFO", Str.ofString "S_IFLNK", Str.ofString "S_IFSOCK", Str.ofString "S_ISUID", Str.ofString "S_ISGID", Str.ofString "S_ISVTX", Str.ofString "S_IRUSR", Str.ofString "S_IWUSR", Str.ofString "S_IXUSR", Str.ofString "S_IRGRP", Str.ofString "S_IWGRP", Str.ofString "S_IXGRP", Str.ofString "S_IROTH", Str.ofString "S_IWOTH", Str.ofString "S_IXOTH", Str.ofString "_filemode_table", Str.ofString "filemode", Str.ofString "tspecials", Str.ofString "_name_disallowed_re", Str.ofString "_value_disallowed_re", Str.ofString "_formatparam", Str.ofString "Headers", Str.ofString "_law_acts", Str.ofString "_law_done", Str.ofString "_law_signs", Str.ofString "_law_walked", Str.ofString "_law_rights", Str.ofString "_law_compare"]
noncomputable def asV : List Addr := [0, 1, 2, 3, 4, 5, 6, 7, 8, 9, 10, 11, 12, 13, 14, 15, 32, 33, 34, 35, 36, 37, 38, 39, 40, 41, 42, 43, 44, 45, 46, 47, 48, 49, 50, 51, 52, 53, 54, 55, 56, 57, 58, 59, 60, 61, 62, 63, 64, 65, 66, 67, 68, 69, 70, 71, 72, 73, 74, 75, 76, 77, 78, 79, 80, 81, 82, 83, 84, 85, 86, 87, 88, 89, 90, 91, 92, 93, 94, 98, 99, 103, 104, 108, 109, 110, 111, 112, 113, 114, 115, 116, 117, 125, 126, 127, 128, 129, 130, 131, 132, 133, 134, 135, 136, 137, 138, 139, 140, 141, 142, 143, 144, 145, 146, 147, 148, 149, 150, 151, 152, 153, 154, 155, 156, 157, 158, 159, 160, 161, 162, 163, 164, 165, 166, 167, 168, 169, 170, 171, 172, 173, 174, 175, 176, 177, 178, 179, 180, 181, 182, 183, 184, 185, 186, 187, 188, 189, 190, 191, 192, 193, 194, 195, 196, 197, 198, 199, 200, 201, 202, 203, 204, 205, 206, 207, 208, 209, 210, 211, 212, 213, 214, 215, 216, 217, 218, 219, 220, 221, 222, 223, 224, 225, 226, 227, 228, 229, 230, 231, 232, 233, 234, 235, 236, 237, 238, 239, 240, 243, 244, 245, 246, 247, 248, 249, 250, 251, 252, 253, 254, 255, 256, 257, 258, 259, 260, 261, 262, 263, 264, 265, 266, 267, 268, 269, 270, 271, 272, 273, 274, 275, 276, 277, 278, 279, 280, 281, 282, 283, 284, 285]
theorem keysV : ∀ P, asV = (hk.heap_1 P).map (·.1) := fun P => by kernel_rfl
noncomputable abbrev HV := kHook hk.heap_1 asV keysV
/-- a run over a tree of objects: where it stops, and its step, are handed in -/
noncomputable def runX (fin : Thread → Option Bool) (stp : SharedT → Thread → Option (SharedT × Thread)) (n : Nat) : SharedT → Thread → Option SharedT :=
  @Nat.rec (fun _ => SharedT → Thread → Option SharedT) (fun _ _ => none) (fun _ ih s t => match fin t with
    | some true => some s
    | some false => none
    | none => match stp s t with
      | some x => ih x.1 x.2
      | none => none) n
theorem runX_of {den : Code → Sem Fin} {p : Program} {w : World} {fin : Thread → Option Bool} (R : Nat → Shared → Thread → Option Shared) (h1 : ∀ n s t, fin t = some true → R (n + 1) s t = some s)
    (h2 : ∀ n s t s' t', fin t = none → step den p w s t = .go s' t' → R (n + 1) s t = R n s' t') : ∀ {n : Nat} {s x : SharedT} {t : Thread}, runX fin (stepT den p w) n s t = some x → R n s.abs t = some x.abs
  | 0, _, _, _, h => by cases h
  | n + 1, s, x, t, h => by
    replace h : (match fin t with
      | some true => some s
      | some false => none
      | none => match stepT den p w s t with
        | some x => runX fin (stepT den p w) n x.1 x.2
        | none => none) = some x := h
    cases hf : fin t with
    | some b => rw [hf] at h; cases b with
      | true => cases h; exact h1 _ _ _ hf
      | false => cases h
    | none =>
      rw [hf] at h
      cases hs : stepT den p w s t with
      | none => rw [hs] at h; cases h
      | some r => rw [hs] at h; exact (h2 _ _ _ _ _ hf (stepT_spec (s' := r.1) (t' := r.2) hs)).trans (runX_of R h1 h2 h)
noncomputable def topFin (ok : Thread → Bool) (t : Thread) : Option Bool := match through t with
  | true => some true
  | false => match ok t with
    | true => none
    | false => some false
noncomputable def impFin (t : Thread) : Option Bool := match t.atExitBegin with
  | some [] => some true
  | some (_ :: _) => some false
  | none => none
theorem top_of {tb : String → Option Builtin} {p : Program} {w : World} {n₀ : Nat} {ann : Option Value} {n : Nat} {s x : SharedT} {t : Thread} : runX (topFin (stepOk n₀ ann)) (stepT (denote tb) p w) n s t = some x → topRun tb p w n₀ ann n s.abs t = some x.abs :=
  runX_of (topRun tb p w n₀ ann) (fun n s t h => by
    unfold topFin at h
    unfold topRun
    cases ht : through t with
    | true => rfl
    | false => rw [ht] at h; cases hk : stepOk n₀ ann t <;> rw [hk] at h <;> cases h) fun n s t s' t' h q => by
    unfold topFin at h
    conv => lhs; unfold topRun
    cases ht : through t with
    | true => rw [ht] at h; cases h
    | false => rw [ht] at h; cases hk : stepOk n₀ ann t with
      | true => dsimp only; rw [q]
      | false => rw [hk] at h; cases h
theorem imp_of {tb : String → Option Builtin} {p : Program} {w : World} {n : Nat} {s x : SharedT} {t : Thread} : runX impFin (stepT (denote tb) p w) n s t = some x → importEnds tb p w n s.abs t = some x.abs :=
  runX_of (importEnds tb p w) (fun n s t h => by
    unfold impFin at h
    unfold importEnds
    cases ht : t.atExitBegin with
    | none => rw [ht] at h; cases h
    | some l => rw [ht] at h; cases l with
      | nil => rfl
      | cons a l => cases h) fun n s t s' t' h q => by
    unfold impFin at h
    conv => lhs; unfold importEnds
    cases ht : t.atExitBegin with
    | none => dsimp only; rw [q]
    | some l => rw [ht] at h; cases l <;> cases h
noncomputable def treeOf : List Obj → BT → Nat → Option (BT × Nat)
  | [], t, n => some (t, n)
  | o :: l, t, n => match ((t.ins n o).get n).isSome with
    | true => treeOf l (t.ins n o) (n + 1)
    | false => none
theorem treeOf_of (life : Life) : ∀ {l : List Obj} {t t' : BT} {n n' : Nat}, treeOf l t n = some (t', n') → absHeap t' n' life = ⟨((absHeap t n life).objs.toList ++ l).toArray, life⟩
  | [], t, t', n, n', h => by cases h; simp; rfl
  | o :: l, t, t', n, n', h => by
    unfold treeOf at h
    cases e : ((t.ins n o).get n).isSome with
    | false => rw [e] at h; cases h
    | true =>
      rw [e] at h
      rw [treeOf_of life h, absHeap_ins e]
      simp [Heap.push]
noncomputable def shT (s : Shared) : Option SharedT := (treeOf s.heap.objs.toList .nil 0).map fun x => ⟨x.1, x.2, s.heap.life, s.gens, s.drawn, s.toks, s.os⟩
theorem shT_abs {s : Shared} {x : SharedT} (h : shT s = some x) : x.abs = s := by
  obtain ⟨⟨t, n⟩, e, rfl⟩ := Option.map_eq_some_iff.mp h
  obtain ⟨⟨⟨os⟩, l⟩, g, d, k, o⟩ := s
  exact congrArg (Shared.mk · g d k o) (treeOf_of l e)
noncomputable def topX (p : Program) (top : Nat → Option Value → SharedT → Option SharedT) (nsm : Heap → Addr → Str → Option Value) (s₀ : Shared) : Option SharedT := match s₀.heap.isNs mainGlobals && s₀.gens.size == 0 with
  | true => (shT s₀).bind fun x₀ => (top s₀.heap.objs.size (nsm s₀.heap mainGlobals "__annotations__") x₀).bind fun x₁ =>
        match staticsOk (importedModules p.main.body) s₀.heap x₁.abs.heap && namesBound p x₁.abs.heap && gensDone x₁.abs && laidKept s₀.heap x₁.abs.heap with
        | true => some x₁
        | false => none
  | false => none
noncomputable def opensX (p : Program) (w : World) (N : Nat) (st : Shared × Thread) (stp : Program → SharedT → Thread → Option (SharedT × Thread)) (fence : Program → Shared → Option Shared) (ok : Nat → Option Value → Thread → Bool) (nsm : Heap → Addr → Str → Option Value) : Option SharedT :=
  (shT st.1).bind fun y => (runX impFin (stp (opening p)) N y st.2).bind fun y1 => (fence p y1.abs).bind (topX p (fun n₀ ann x₀ => runX (topFin (ok n₀ ann)) (stp p) N x₀ (topStub p)) nsm)
theorem topX_of {tb : String → Option Builtin} {p : Program} {w : World} {N : Nat} {s₀ : Shared} {x : SharedT} (h : topX p (fun n₀ ann x₀ => runX (topFin (stepOk n₀ ann)) (stepT (denote tb) p w) N x₀ (topStub p)) Heap.nsMap s₀ = some x) : topFrom tb p w N s₀ = some x.abs := by
  unfold topX at h
  unfold topFrom
  cases hg : (s₀.heap.isNs mainGlobals && s₀.gens.size == 0) with
  | false => rw [hg] at h; cases h
  | true =>
    rw [hg] at h
    obtain ⟨x₀, h4, h⟩ := Option.bind_eq_some_iff.mp h
    obtain ⟨x₁, h5, h⟩ := Option.bind_eq_some_iff.mp h
    replace h5 := top_of h5
    rw [shT_abs h4] at h5
    refine Option.bind_eq_some_iff.mpr ⟨_, h5, ?_⟩
    revert h
    generalize (staticsOk (importedModules p.main.body) s₀.heap x₁.abs.heap && namesBound p x₁.abs.heap && gensDone x₁.abs && laidKept s₀.heap x₁.abs.heap) = b
    intro h
    cases b <;> cases h
    rfl
theorem opensX_of {tb : String → Option Builtin} {p : Program} {w : World} {N : Nat} {x : SharedT} (h : opensX p w N (start (opening p)) (fun p => stepT (denote tb) p w) fenceModules? stepOk Heap.nsMap = some x) : openEnds tb p w N = some x.abs := by
  obtain ⟨y, h1, h⟩ := Option.bind_eq_some_iff.mp h
  obtain ⟨y1, h2, h⟩ := Option.bind_eq_some_iff.mp h
  obtain ⟨s₀, h3, h⟩ := Option.bind_eq_some_iff.mp h
  replace h2 := imp_of h2
  rw [shT_abs h1] at h2
  exact Option.bind_eq_some_iff.mpr ⟨s₀, Option.bind_eq_some_iff.mpr ⟨_, h2, h3⟩, topX_of h⟩
noncomputable def getQ (x : SharedT) (a : Nat) : Option Obj := match Nat.blt a x.n with
  | true => alive ((x.tree.get a).getD default)
  | false => none
theorem getQ_eq (x : SharedT) (a : Nat) : getQ x a = x.abs.heap.get? a := by
  unfold getQ
  cases e : Nat.blt a x.n with
  | false => exact (abs_get_none (fun q => Bool.noConfusion (e.symm.trans (Nat.ble_eq_true_of_le q)))).symm
  | true =>
    have lt : a < x.n := Nat.le_of_ble_eq_true e
    show _ = (absHeap x.tree x.n x.life).get? a
    unfold Heap.get?
    rw [absHeap_at, if_pos lt]
    generalize (x.tree.get a).getD default = o
    obtain ⟨c, d, dt, sl⟩ := o
    cases dt <;> rfl
/-- the top's run by other forms of the model's parts, each told equal to the part -/
theorem leftO_q {p q : Program} {loose : List Str} {Xt : Shared → Bool} {K : Params → Frag} {as : List Addr} (e : ∀ P, as = (K P).map (·.1)) {N : Nat} {g0 : Bool}
    {st stp den tb fence ok nsm sn} (e1 : start = st) (e2 : stepT = stp) (e3 : denote = den) (e4 : treeTable = tb) (e5 : fenceModules? = fence) (e6 : stepOk = ok) (e7 : Heap.nsMap = nsm) (e8 : openSeen = sn)
    (h : ∀ w, (opensX p w N (st (opening p)) (fun p => stp (den tb) p w) fence ok nsm).map (fun x => (sn q loose (importedModules p.main.body) Xt g0 x.abs, as.map (getQ x))) = some (openGood q loose, (Hook.val (kHook K as e)) w)) : LeftO p q loose Xt (Hook.obs (kHook K as e)) (Hook.val (kHook K as e)) N g0 := fun w => by
  subst e1 e2 e3 e4 e5 e6 e7 e8
  obtain ⟨x, a, b⟩ := Option.map_eq_some_iff.mp (h w)
  rw [opensX_of a]
  rw [show as.map (getQ x) = as.map x.abs.heap.get? from List.map_congr_left fun _ _ => getQ_eq x _] at b
  exact congrArg some b
theorem leftV : LeftO PySem.Challenge.pw_ny0280_01 qv looseV (fun s => xlAt qv [] s && recOk (RowW.records (OpenRow.toRowW (OpenLaw.row PySem.Challenge.rw_ny0280_01))) s) (Hook.obs HV) (Hook.val HV) 3564 := by
  first
  | exact leftO_q keysV PySem.W.Fast.te1435165496053646825 PySem.W.Fast.te10156331382660048174 PySem.W.Fast.te11892475500146522536 PySem.W.Fast.te14364793385576792824 PySem.W.Fast.te14289696077712309145 PySem.W.Fast.te6613529449190102663 PySem.W.Fast.te8920871248978507458 PySem.W.Fast.te4187177175401517315 fun w => by kernel_rfl
  | exact fun w => by kernel_rfl
end
section
noncomputable abbrev PW := PySem.Challenge.pw_ny0280_01
/-- the text's own objects, but for the two tables that a call of law lets grow -/
noncomputable def KK : Params → Frag := fun P => (fun (x0 x1 x2 x3 x4 x5 x6 x7 x8 x9 x10 x11 x12 x13 x14 x15 x16 x17 x18 x19 x20 x21 x22 x23 x24 x25 x26 x27 x28 x29 x30 x31 x32 x33 x34 x35 x36 x37 x38 x39 x40 x41 x42 x43 x44 x45 x46 x47 x48 x49 x50 x51 x52 x53 x54 x55 x56 x57 x58 x59 x60 x61 x62 x63 x64 x65 x66 x67 x68 x69 x70 x71 x72 x73 x74 x75 x76 x77 x78 x79 x80 x81 x82 x83 x84 x85 x86 x87 x88 x89 x90 x91 x92 x93 x94 x95 x96 x97 x98 x99 x100 x101 x102 x103 x104 x105 x106 x107 x108 x109 x110 x111 x112 x113 x114 x115 x116 x117 x118 x119 x120 x121 x122 x123 x124 x125 x126 x127 x128 x129 x130 x131 x132 x133 x134 x135 x136 x137 x138 x139 x140 x141 x142 x143 x144 x145 x146 x147 x148 x149 x150 x151 x152 x153 x154 x155 x156 x157 x158 x159 x160 x161 x162 x163 x164 x165 x166 x167 x168 x169 x170 x171 x172 x173 x174 x175 x176 x177 x178 x179 x180 x181 x182 x183 x184 x185 x186 x187 x188 x189 x190 x191 x192 x193 x194 x195 x196 x197 x198 x199 x200 x201 x202 x203 x204 x205 x206 x207 x208 x209 x210 x211 x212 x213 x214 x215 x216 x217 x218 x219 x220 x221 x222 x223 x224 x225 x226 x227 x228 x229 x230 x231 x232 x233 x234 x235 x236 x237 x238 x239 x240 x241 x242 x243 x244 x245 x246 x247 x248 : Addr × Obj) (r : Frag) (_ : hk.heap_1 P = x0 :: x1 :: x2 :: x3 :: x4 :: x5 :: x6 :: x7 :: x8 :: x9 :: x10 :: x11 :: x12 :: x13 :: x14 :: x15 :: x16 :: x17 :: x18 :: x19 :: x20 :: x21 :: x22 :: x23 :: x24 :: x25 :: x26 :: x27 :: x28 :: x29 :: x30 :: x31 :: x32 :: x33 :: x34 :: x35 :: x36 :: x37 :: x38 :: x39 :: x40 :: x41 :: x42 :: x43 :: x44 :: x45 :: x46 :: x47 :: x48 :: x49 :: x50 :: x51 :: x52 :: x53 :: x54 :: x55 :: x56 :: x57 :: x58 :: x59 :: x60 :: x61 :: x62 :: x63 :: x64 :: x65 :: x66 :: x67 :: x68 :: x69 :: x70 :: x71 :: x72 :: x73 :: x74 :: x75 :: x76 :: x77 :: x78 :: x79 :: x80 :: x81 :: x82 :: x83 :: x84 :: x85 :: x86 :: x87 :: x88 :: x89 :: x90 :: x91 :: x92 :: x93 :: x94 :: x95 :: x96 :: x97 :: x98 :: x99 :: x100 :: x101 :: x102 :: x103 :: x104 :: x105 :: x106 :: x107 :: x108 :: x109 :: x110 :: x111 :: x112 :: x113 :: x114 :: x115 :: x116 :: x117 :: x118 :: x119 :: x120 :: x121 :: x122 :: x123 :: x124 :: x125 :: x126 :: x127 :: x128 :: x129 :: x130 :: x131 :: x132 :: x133 :: x134 :: x135 :: x136 :: x137 :: x138 :: x139 :: x140 :: x141 :: x142 :: x143 :: x144 :: x145 :: x146 :: x147 :: x148 :: x149 :: x150 :: x151 :: x152 :: x153 :: x154 :: x155 :: x156 :: x157 :: x158 :: x159 :: x160 :: x161 :: x162 :: x163 :: x164 :: x165 :: x166 :: x167 :: x168 :: x169 :: x170 :: x171 :: x172 :: x173 :: x174 :: x175 :: x176 :: x177 :: x178 :: x179 :: x180 :: x181 :: x182 :: x183 :: x184 :: x185 :: x186 :: x187 :: x188 :: x189 :: x190 :: x191 :: x192 :: x193 :: x194 :: x195 :: x196 :: x197 :: x198 :: x199 :: x200 :: x201 :: x202 :: x203 :: x204 :: x205 :: x206 :: x207 :: x208 :: x209 :: x210 :: x211 :: x212 :: x213 :: x214 :: x215 :: x216 :: x217 :: x218 :: x219 :: x220 :: x221 :: x222 :: x223 :: x224 :: x225 :: x226 :: x227 :: x228 :: x229 :: x230 :: x231 :: x232 :: x233 :: x234 :: x235 :: x236 :: x237 :: x238 :: x239 :: x240 :: x241 :: x242 :: x243 :: x244 :: x245 :: x246 :: x247 :: x248 :: r) => x0 :: x1 :: x2 :: x3 :: x4 :: x5 :: x6 :: x7 :: x8 :: x9 :: x10 :: x11 :: x12 :: x13 :: x14 :: x15 :: x16 :: x18 :: x19 :: x20 :: x21 :: x22 :: x23 :: x24 :: x25 :: x26 :: x27 :: x28 :: x29 :: x30 :: x31 :: x32 :: x33 :: x34 :: x35 :: x36 :: x37 :: x38 :: x39 :: x40 :: x41 :: x42 :: x43 :: x44 :: x45 :: x46 :: x47 :: x48 :: x49 :: x50 :: x51 :: x52 :: x53 :: x54 :: x55 :: x56 :: x57 :: x58 :: x59 :: x60 :: x61 :: x62 :: x63 :: x64 :: x65 :: x66 :: x67 :: x68 :: x69 :: x70 :: x71 :: x72 :: x73 :: x74 :: x75 :: x76 :: x77 :: x78 :: x79 :: x80 :: x81 :: x82 :: x83 :: x84 :: x85 :: x86 :: x87 :: x88 :: x89 :: x90 :: x91 :: x92 :: x93 :: x94 :: x95 :: x96 :: x97 :: x98 :: x99 :: x100 :: x101 :: x102 :: x103 :: x104 :: x105 :: x106 :: x107 :: x108 :: x109 :: x110 :: x111 :: x112 :: x113 :: x114 :: x115 :: x116 :: x117 :: x118 :: x119 :: x120 :: x121 :: x122 :: x123 :: x124 :: x125 :: x126 :: x127 :: x128 :: x129 :: x130 :: x131 :: x132 :: x133 :: x134 :: x135 :: x136 :: x137 :: x138 :: x139 :: x140 :: x141 :: x142 :: x143 :: x144 :: x145 :: x146 :: x147 :: x148 :: x149 :: x150 :: x151 :: x152 :: x153 :: x154 :: x155 :: x156 :: x157 :: x158 :: x159 :: x160 :: x161 :: x162 :: x163 :: x164 :: x165 :: x166 :: x167 :: x168 :: x169 :: x170 :: x171 :: x172 :: x173 :: x174 :: x175 :: x176 :: x177 :: x178 :: x179 :: x180 :: x181 :: x182 :: x183 :: x184 :: x185 :: x186 :: x187 :: x188 :: x189 :: x190 :: x191 :: x192 :: x193 :: x194 :: x195 :: x196 :: x197 :: x198 :: x199 :: x200 :: x201 :: x202 :: x203 :: x204 :: x205 :: x206 :: x207 :: x208 :: x209 :: x210 :: x211 :: x212 :: x213 :: x214 :: x215 :: x216 :: x217 :: x218 :: x219 :: x220 :: x221 :: x222 :: x223 :: x224 :: x225 :: x226 :: x227 :: x228 :: x229 :: x230 :: x231 :: x232 :: x233 :: x234 :: x235 :: x236 :: x237 :: x238 :: x239 :: x240 :: x241 :: x242 :: x243 :: x244 :: x245 :: x246 :: x247 :: r) _ _ _ _ _ _ _ _ _ _ _ _ _ _ _ _ _ _ _ _ _ _ _ _ _ _ _ _ _ _ _ _ _ _ _ _ _ _ _ _ _ _ _ _ _ _ _ _ _ _ _ _ _ _ _ _ _ _ _ _ _ _ _ _ _ _ _ _ _ _ _ _ _ _ _ _ _ _ _ _ _ _ _ _ _ _ _ _ _ _ _ _ _ _ _ _ _ _ _ _ _ _ _ _ _ _ _ _ _ _ _ _ _ _ _ _ _ _ _ _ _ _ _ _ _ _ _ _ _ _ _ _ _ _ _ _ _ _ _ _ _ _ _ _ _ _ _ _ _ _ _ _ _ _ _ _ _ _ _ _ _ _ _ _ _ _ _ _ _ _ _ _ _ _ _ _ _ _ _ _ _ _ _ _ _ _ _ _ _ _ _ _ _ _ _ _ _ _ _ _ _ _ _ _ _ _ _ _ _ _ _ _ _ _ _ _ _ _ _ _ _ _ _ _ _ _ _ _ _ _ _ _ _ _ _ _ _ _ _ _ _ _ _ _ _ _ _ _ _ _ rfl
/-- all that stands in h stands in h' -/
noncomputable abbrev Up (h h' : Heap) : Prop := ∀ b o, h.get? b = some o → h'.get? b = some o
/-- the same but for the address l -/
noncomputable abbrev UpBut (l : Addr) (h h' : Heap) : Prop := ∀ b o, b ≠ l → h.get? b = some o → h'.get? b = some o
noncomputable abbrev tupO (vs : List Value) : Obj := { cls := .type "tuple", data := .seq vs.toArray }
noncomputable abbrev lstO (its : Array Value) (e : Nat) : Obj := { cls := .type "list", data := .seq its e }
theorem kall (P : Params) : ((KK P).map (·.1)).all (fun a => Nat.blt a 286) = true := by kernel_rfl
theorem khi0 (P : Params) {a : Addr} (h : 286 ≤ a) : List.lookup a (KK P) = none := by
  have hall := kall P
  generalize KK P = K at hall
  induction K with
  | nil => rfl
  | cons p r ih =>
    obtain ⟨b, o⟩ := p
    simp only [List.map_cons, List.all_cons, Bool.and_eq_true] at hall
    have hb : b < 286 := Nat.le_of_ble_eq_true hall.1
    have : (a == b) = false := beq_false_of_ne (Nat.ne_of_gt (Nat.lt_of_lt_of_le hb h))
    rw [List.lookup_cons, this]
    exact ih hall.2

/-- an address that is none of the text's own objects -/
noncomputable def hiA (a : Addr) : Prop := ∀ P : Params, List.lookup a (KK P) = none
theorem hi_of {a : Addr} (h : 286 ≤ a) : hiA a := fun P => khi0 P h
theorem khi (P : Params) {a : Addr} (h : hiA a) : List.lookup a (KK P) = none := h P
theorem kkeys (P P' : Params) : (KK P).map (·.1) = (KK P').map (·.1) := by kernel_rfl
theorem lookup_none {K : Frag} {a : Addr} : List.lookup a K = none ↔ a ∉ K.map (·.1) := by
  induction K with
  | nil => simp
  | cons p r ih =>
    obtain ⟨b, o⟩ := p
    rw [List.lookup_cons, List.map_cons, List.mem_cons]
    by_cases h : a = b
    · subst h; simp
    · rw [beq_false_of_ne h]
      simp only [h, false_or]
      exact ih
theorem hi_new {P : Params} {h : Heap} {a : Addr} (X : (KK P).In h) (n : h.get? a = none) : hiA a := by
  intro P'
  have e : List.lookup a (KK P) = none := by
    cases q : List.lookup a (KK P) with
    | none => rfl
    | some o => rw [X _ _ q] at n; cases n
  rw [lookup_none] at e ⊢
  rw [kkeys P' P]; exact e
/-- what a call asks of its surroundings: room for n frames below it -/
structure Room (n : Nat) (A : Around) : Prop where
  handled : A.handled = none
  depth : A.depth + n ≤ 900
  units : A.units + 10 * n ≤ 2000
theorem Room.deeper {n : Nat} {A : Around} (RA : Room (n + 1) A) {env : Env} : Room n (A.deeper env) := ⟨RA.handled, by have := RA.depth; show A.depth + 1 + n ≤ 900; omega, by have := RA.units; show A.units + 3 + 10 * n ≤ 2000; omega⟩
theorem Room.less {n m : Nat} {A : Around} (RA : Room n A) (h : m ≤ n) : Room m A := ⟨RA.handled, by have := RA.depth; omega, by have := RA.units; omega⟩
theorem Room.in1 {n : Nat} {A : Around} (RA : Room (n + 1) A) : Room n A.in1 := ⟨RA.handled, by have := RA.depth; show A.depth + n ≤ 900; omega, by have := RA.units; show A.units + 1 + 10 * n ≤ 2000; omega⟩
noncomputable abbrev A9 : Around := { handled := none, depth := 900, frames := none, guards := none, units := 2000 }
/-- the way back is kept out of sight: a walk's proof is shorter so -/
theorem wpAny_gen {α : Type} {M : Model} {A : Around} {t : Sem α} {Q : α → Shared → Prop} {E : Value → Shared → Prop} {s : Shared} (h : ∀ Q' E', Q' = Q → E' = E → wpAny M A t Q' E' s) : wpAny M A t Q E s := h Q E rfl rfl
theorem wpAny_gen2 {α β : Type} {M : Model} {A A₂ : Around} {t : Sem α} {t₂ : Sem β} {Q : β → Shared → Prop} {E E₂ : Value → Shared → Prop} {s : Shared} (h : ∀ Q' E', Q' = Q → E' = E₂ → wpAny M A t (fun _ s₂ => wpAny M A₂ t₂ Q' E' s₂) E s) : wpAny M A t (fun _ s₂ => wpAny M A₂ t₂ Q E₂ s₂) E s := h Q E₂ rfl rfl
theorem weaken {α : Type} {n : Nat} {M : Model} {A : Around} {t : Sem α} {Q : α → Shared → Prop} {E : Value → Shared → Prop} {s : Shared} (RA : Room n A) (h : wpAny M A9 t Q E s) : wpAny M A t Q E s :=
  fun Γ p hΓ => h Γ p ⟨hΓ.1.trans RA.handled, Nat.le_trans hΓ.2.1 (by have := RA.depth; show A.depth ≤ 900; omega), fun _ e => (nomatch e), fun _ e => (nomatch e), Nat.le_trans hΓ.2.2.2.2 (by have := RA.units; show A.units ≤ 2000; omega)⟩
/-- the surroundings of a body that has room for n frames more -/
noncomputable abbrev AL (n : Nat) : Around := { handled := none, depth := 899 - n, frames := none, guards := none, units := 1990 - 10 * n }
theorem weakenL {α : Type} {n : Nat} {M : Model} {A : Around} {env : Env} {t : Sem α} {Q : α → Shared → Prop} {E : Value → Shared → Prop} {s : Shared} (RA : Room (n + 1) A) (h : wpAny M ((AL n).deeper env) t Q E s) : wpAny M (A.deeper env) t Q E s :=
  fun Γ p hΓ => h Γ p ⟨hΓ.1.trans RA.handled, Nat.le_trans hΓ.2.1 (by have := RA.depth; show A.depth + 1 ≤ 899 - n + 1; omega), fun _ e => (nomatch e), fun _ e => (nomatch e), Nat.le_trans hΓ.2.2.2.2 (by have := RA.units; show A.units + 3 ≤ 1990 - 10 * n + 3; omega)⟩
theorem up_of {h₀ h : Heap} {news : List (Addr × Obj)} (D : Mem h₀ h [] news) : Up h₀ h := fun b o e => D.keep b o e (by simp [away])
/-- the names that are met -/
noncomputable def NM : List Str := ["A", "a", "b", "B", "c", "A-b", "a-b", "C", "a-B"]
noncomputable def low (x : Str) : Str := if x = "A" then "a" else if x = "B" then "b" else if x = "C" then "c" else if x = "A-b" then "a-b" else if x = "a-B" then "a-b" else x

/-- the top's names, wherever the text's own objects stand -/
noncomputable def Tops (w : World) (p : Program) (loose : List Str) (mg mb : Str → Option Value) : Prop := ∀ h, (KK w.params).In h → TopRead p loose mg mb h
theorem ns_same {h h' : Heap} {a : Addr} {o : Obj} {m : Str → Option Value} (n : h.Ns a m) (e : h.get? a = some o) (e' : h'.get? a = some o) : h'.Ns a m := by
  obtain ⟨o₁, es, ep, e₁, r⟩ := n
  rw [e] at e₁; cases e₁
  exact ⟨o, es, ep, e', r⟩
theorem k_zero (P : Params) : ((KK P).lookup 0).isSome = true ∧ ((KK P).lookup 2).isSome = true ∧ ((KK P).lookup 3).isSome = true := ⟨by kernel_rfl, by kernel_rfl, by kernel_rfl⟩
theorem tops_of {w : World} {p : Program} {loose : List Str} {mg mb : Str → Option Value} {h : Heap} (T : TopRead p loose mg mb h) (X : (KK w.params).In h) : Tops w p loose mg mb := by
  intro h' X'
  obtain ⟨k0, k2, k3⟩ := k_zero w.params
  obtain ⟨o0, e0⟩ := Option.isSome_iff_exists.mp k0
  obtain ⟨o2, e2⟩ := Option.isSome_iff_exists.mp k2
  obtain ⟨o3, e3⟩ := Option.isSome_iff_exists.mp k3
  obtain ⟨mc, nc, hc⟩ := T.nolimit
  exact ⟨ns_same T.g (X _ _ e3) (X' _ _ e3), ns_same T.b (X _ _ e0) (X' _ _ e0), ⟨mc, ns_same nc (X _ _ e2) (X' _ _ e2), hc⟩, T.builtins, T.free⟩

section
variable {w : World} {p : Program} {loose : List Str} {mg mb : Str → Option Value}
/-- a call of one of the text's defs: its body is walked in a frame of its own, over a heap from which the objects of the ledger are hidden -/
theorem enterC {n : Nat} {A : Around} {Q E : Value → Shared → Prop} {s : Shared} {name qual : Str} {params : Arguments} {body : List Stmt} {scope : Scope} {dV kV doc pm cdv ct oc : Value} {an od : Option Addr} {osl : Array (Option Value)} {f : Addr} {pos : List Value} {kw : List (Str × Value)} {binds : List (Str × Value)} (news : List (Addr × Obj))
    (TW : Tops w p loose mg mb) (KX : (KK w.params).In s.heap) (hn : ∀ p ∈ news, s.heap.get? p.1 = some p.2 ∧ hiA p.1) (hroom : Room (n + 1) A)
    (ho : (KK w.params).lookup f = some ⟨oc, od, .func (fnOf name qual params body scope dV kV doc pm an cdv ct), osl⟩) (hcd : codeIn (KK w.params) cdv qual = true)
    (hbind : BindsTo s (fnOf name qual params body scope dV kV doc pm an cdv ct) ⟨pos, kw⟩ binds) (hloc : ∀ y ∈ binds, scope.names.lookup y.1 = some .local)
    (h : ∀ h₀ L h₁ tk, Fr h₀ L h₁ (fun y => binds.reverse.lookup y) → News h₀ L h₁ news → (KK w.params).In h₀ → TopRead p loose mg mb h₀ → (∀ b o, (∀ p ∈ news, b ≠ p.1) → s.heap.get? b = some o → h₀.get? b = some o) → Up h₀ s.heap → (∀ p ∈ news, p.1 < L) → Room n ((AL n).deeper (envOf qual scope L f cdv)) →
      wpAny (model PW w) ((AL n).deeper (envOf qual scope L f cdv)) (execs body (envOf qual scope L f cdv))
        (fun fl s' => Q (match fl with | .ret v => v | _ => .none) s') (fun _ _ => False) { s with heap := h₁, toks := tk })
    (hcell : ∀ x ∈ scope.names, x.2 ≠ .cell) (hco : scope.isCoroutine = false := by rfl) (hgen : scope.isGenerator = false := by rfl) (hk : scope.kind = .function := by rfl) :
    wpAny (model PW w) A (call (.ref f) pos kw) Q E s := by
  refine wpAny_call ?_
  refine codeAny_call_def (fd := fnOf name qual params body scope dV kV doc pm an cdv ct) (body := body) (binds := binds) (Nat.lt_of_le_of_lt (Nat.le_trans (Nat.le_add_right _ _) hroom.depth) (by decide)) (KX _ _ ho) rfl (TW _ KX).nolimit (codeRec_of KX hcd) rfl hbind hcell hloc (fun h₁ hns hk₁ => ?_) hco hgen hk
  have X₀ : (KK w.params).In (hideAll s.heap (news.map (·.1))) := by
    intro a o e
    refine hideAll_get _ (KX a o e) fun hm => ?_
    obtain ⟨p, hp, rfl⟩ := List.mem_map.mp hm
    rw [khi _ (hn p hp).2] at e; cases e
  refine weakenL hroom (wpAny_mono (h (hideAll s.heap (news.map (·.1))) s.heap.objs.size h₁ _ ⟨hns, fun b o e => hk₁ b o (of_hideAll _ e), Nat.le_of_eq (hideAll_size _ _)⟩
    (fun p hp => ⟨hk₁ _ _ (hn p hp).1, Nat.ne_of_lt (Heap.lt_size (hn p hp).1), hideAll_none _ (List.mem_map_of_mem hp)⟩) X₀ (TW _ X₀) (fun b o hb e => hideAll_get _ e fun hm => ?_) (fun b o e => of_hideAll _ e) (fun p hp => Heap.lt_size (hn p hp).1) ⟨rfl, by have := hroom.depth; show 899 - n + 1 + n ≤ 900; omega, by have := hroom.units; show 1990 - 10 * n + 3 + 10 * n ≤ 2000; omega⟩) (fun _ _ h => h) fun _ _ h => h.elim)
  obtain ⟨p, hp, e⟩ := List.mem_map.mp hm
  exact hb p hp e.symm

/-- a list's iterator, at place i -/
noncomputable def IterO (o : Obj) (l : Addr) (i : Nat) : Prop := o.cls = .type "list_iterator" ∧ o.data = .fields #[.ref l, .int i 0]
noncomputable def StepN (h₀ : Heap) (L I : Addr) (o : Obj) (s : Shared) (Inv : (Str → Option Value) → List (Addr × Obj) → Prop) (Q : Flow → Shared → Prop) (f : Flow) (s₃ : Shared) : Prop :=
  match f with
  | .ret v => Q (.ret v) s₃
  | .brk => Q .next s₃
  | _ => ∃ h' tk' m' nw', s₃ = { s with heap := h', toks := tk' } ∧ Fr h₀ L h' m' ∧ News h₀ L h' ((I, o) :: nw') ∧ (∀ q ∈ nw', q.1 ≠ I) ∧ Inv m' nw'
theorem goes_list {A : Around} {target : PySem.Expr} {I : Addr} {v : Value} {o : Obj} {l : Addr} {i : Nat} {s : Shared} {Q : Unit → Shared → Prop} {E : Value → Shared → Prop} (ho : s.heap.get? I = some o) (hi : IterO o l i) (h : Q () s) :
    wpAny (model PW w) A (letOwnedTupleGo target (.ref I) v) Q E s := by
  obtain ⟨c, d, dt, sl⟩ := o
  obtain ⟨h1, h2⟩ := hi
  dsimp only at h1 h2
  subst h1 h2
  unfold letOwnedTupleGo
  split
  · cases v with
    | ref a => exact wpAny_bind (wpAny_load ho (by exact wpAny_pure h))
    | _ => exact wpAny_pure h
  · cases v with
    | ref a => exact wpAny_bind (wpAny_load ho (by exact wpAny_pure h))
    | _ => exact wpAny_pure h
  · exact wpAny_pure h
/-- a loop over a list, by an invariant over the frame's names and the ledger -/
theorem loopN {A : Around} {env : Env} {h₀ : Heap} {target : PySem.Expr} {body : List Stmt} {Q : Flow → Shared → Prop} {s : Shared} {I l : Addr} {its : Array Value} {o₀ : Obj} {m₀ : Str → Option Value} {nw₀ : List (Addr × Obj)}
    (Inv : Nat → (Str → Option Value) → List (Addr × Obj) → Prop) (hh : A.handled = none) (F : Fr h₀ env.locals s.heap m₀) (N : News h₀ env.locals s.heap ((I, o₀) :: nw₀)) (hI : ∀ q ∈ nw₀, q.1 ≠ I) (hi : IterO o₀ l 0) (h0 : Inv 0 m₀ nw₀)
    (hl : ∀ i m nw h, Inv i m nw → Up h₀ h → News h₀ env.locals h nw → h.IsList l its)
    (turn : ∀ i v m nw h tk o, its[i]? = some v → Inv i m nw → IterO o l (i + 1) → Fr h₀ env.locals h m → News h₀ env.locals h ((I, o) :: nw) → (∀ q ∈ nw, q.1 ≠ I) →
      wpAny (model PW w) A (assign target env v) (fun _ s₂ => wpAny (model PW w) A (execs body env) (StepN h₀ env.locals I o s (Inv (i + 1)) Q) (fun _ _ => False) s₂) (fun _ _ => False) { s with heap := h, toks := tk })
    (done : ∀ m nw h tk, Inv its.size m nw → Fr h₀ env.locals h m → News h₀ env.locals h nw → Q .next { s with heap := h, toks := tk }) :
    codeAny (model PW w) A (.forLoop target (.ref I) body [] env) (fun r s' => match r with | .ok f => Q f s' | .error e => cameBackBy (model PW w) A env (fun _ _ => False) e s') s := by
  refine codeAny_forLoop_any
    (fun k s' => ∃ h' tk m nw i o, s' = { s with heap := h', toks := tk } ∧ Fr h₀ env.locals h' m ∧ News h₀ env.locals h' ((I, o) :: nw) ∧ (∀ q ∈ nw, q.1 ≠ I) ∧ IterO o l i ∧ Inv i m nw ∧ i ≤ its.size ∧ k = its.size + 1 - i) ?_ (its.size + 1)
    ⟨s.heap, s.toks, m₀, nw₀, 0, o₀, rfl, F, N, hI, hi, h0, Nat.zero_le _, rfl⟩
  rintro k s' ⟨h', tk, m, nw, i, o, rfl, F', N', hI', hi', hJ, hle, rfl⟩
  have hIt : h'.IsListIter I l i := ⟨o, (N' _ (List.Mem.head _)).1, hi'.1, hi'.2⟩
  have N₁ : News h₀ env.locals h' nw := fun p hp => N' p (List.mem_cons_of_mem _ hp)
  have hL : h'.IsList l its := hl i m nw h' hJ F'.keep N₁
  have hI0 : h₀.get? I = none := (N' _ (List.Mem.head _)).2.2
  have hIL : I ≠ env.locals := (N' _ (List.Mem.head _)).2.1
  by_cases hlt : i < its.size
  · refine wpAny_pyNext_list_item hIt hL (x := its[i]) (by simp [hlt]) fun h₁ hit₁ hs₁ => ?_
    obtain ⟨o₁, ho₁, hc₁, hd₁⟩ := hit₁
    have F₁ := F'.change hs₁ hIL hI0
    have N₂ : News h₀ env.locals h₁ ((I, o₁) :: nw) := fun p hp => by
      rcases List.mem_cons.mp hp with rfl | hp
      · exact ⟨ho₁, hIL, hI0⟩
      · exact ⟨(hs₁.2 _ (hI' p hp)).trans (N₁ p hp).1, (N₁ p hp).2⟩
    refine goes_list (s := { s with heap := h₁, toks := tk }) (o := o₁) ho₁ ⟨hc₁, hd₁⟩ ?_
    refine wpAny_mono (turn i its[i] m nw h₁ tk o₁ (by simp [hlt]) hJ ⟨hc₁, hd₁⟩ F₁ N₂ hI') (fun _ s₂ h₂ => wpAny_mono h₂ (fun f s₃ h₃ => ?_) fun _ _ e => e.elim) fun _ _ e => e.elim
    cases f with
    | ret v => exact h₃
    | brk => exact h₃
    | cont =>
      obtain ⟨h₃', tk₃, m₃, nw₃, rfl, F₃, N₃, hI₃, hJ₃⟩ := h₃
      exact ⟨its.size + 1 - (i + 1), by omega, h₃', tk₃, m₃, nw₃, i + 1, o₁, rfl, F₃, N₃, hI₃, ⟨hc₁, hd₁⟩, hJ₃, hlt, rfl⟩
    | next =>
      obtain ⟨h₃', tk₃, m₃, nw₃, rfl, F₃, N₃, hI₃, hJ₃⟩ := h₃
      exact ⟨its.size + 1 - (i + 1), by omega, h₃', tk₃, m₃, nw₃, i + 1, o₁, rfl, F₃, N₃, hI₃, ⟨hc₁, hd₁⟩, hJ₃, hlt, rfl⟩
  · have hin : i = its.size := by omega
    subst hin
    refine wpAny_pyNext_list_end hh hIt hL (by simp) fun h₁ he₁ => wpAny_execs_nil ?_
    have F₁ : Fr h₀ env.locals h₁ m := ⟨F'.ns.at' fun o e => he₁ _ o (Ne.symm hIL) e, fun b o e => he₁ b o (fun q => by rw [q, hI0] at e; cases e) (F'.keep b o e), F'.above⟩
    exact done m nw h₁ tk hJ F₁ fun p hp => ⟨he₁ _ _ (hI' p hp) (N₁ p hp).1, (N₁ p hp).2⟩
theorem iterN {A : Around} {env : Env} {h₀ : Heap} {target : PySem.Expr} {body : List Stmt} {Q : Flow → Shared → Prop} {s : Shared} {l : Addr} {its : Array Value} {m₀ : Str → Option Value} {nw₀ : List (Addr × Obj)}
    (Inv : Nat → (Str → Option Value) → List (Addr × Obj) → Prop) (hh : A.handled = none) (F : Fr h₀ env.locals s.heap m₀) (N : News h₀ env.locals s.heap nw₀) (h0 : Inv 0 m₀ nw₀)
    (hl : ∀ i m nw h, Inv i m nw → Up h₀ h → News h₀ env.locals h nw → h.IsList l its)
    (turn : ∀ I i v m nw h tk o, (∀ q ∈ nw₀, q.1 < I) → its[i]? = some v → Inv i m nw → IterO o l (i + 1) → Fr h₀ env.locals h m → News h₀ env.locals h ((I, o) :: nw) → (∀ q ∈ nw, q.1 ≠ I) →
      wpAny (model PW w) A (assign target env v) (fun _ s₂ => wpAny (model PW w) A (execs body env) (StepN h₀ env.locals I o s (Inv (i + 1)) Q) (fun _ _ => False) s₂) (fun _ _ => False) { s with heap := h, toks := tk })
    (done : ∀ m nw h tk, Inv its.size m nw → Fr h₀ env.locals h m → News h₀ env.locals h nw → Q .next { s with heap := h, toks := tk }) :
    wpAny (model PW w) A (pyIter (.ref l)) (fun it s₂ => codeAny (model PW w) A (.forLoop target it body [] env) (fun r s' => match r with | .ok f => Q f s' | .error e => cameBackBy (model PW w) A env (fun _ _ => False) e s') s₂) (fun _ _ => False) s := by
  refine wpAny_pyIter_list (hl 0 m₀ nw₀ s.heap h0 F.keep N) ?_
  have hlt : ∀ q ∈ nw₀, q.1 < s.heap.objs.size := fun q hq => Heap.lt_size (N q hq).1
  exact loopN (s := { s with heap := s.heap.push { cls := .type "list_iterator", data := .fields #[.ref l, .int 0 0] } }) Inv hh (F.push _) (N.push F _) (fun q hq => Nat.ne_of_lt (hlt q hq)) ⟨rfl, rfl⟩ h0 hl
    (fun i v m nw h tk o => turn s.heap.objs.size i v m nw h tk o hlt) done
end

/-- a mark at which the walk holds -/
noncomputable def Hold (P : Prop) : Prop := P
theorem hold {P : Prop} (h : Hold P) : P := h
theorem nil_hide {s : Shared} : ∀ p ∈ ([] : List (Addr × Obj)), s.heap.get? p.1 = some p.2 ∧ hiA p.1 := fun _ h => (nomatch h)
theorem nil_ne {b : Addr} : ∀ p ∈ ([] : List (Addr × Obj)), b ≠ p.1 := fun _ h => (nomatch h)
end
section
theorem fill0 : (PySem.Challenge.rw_ny0280_01 = PySem.Challenge.rw_ny0280_01 ∧ KK = KK) := by
  k_fill
  exact ⟨rfl, rfl⟩
section
set_option hygiene false in
local macro_rules | `(tactic| x_close) => `(tactic| first | exact hQ _ _ _ (up_of (by assumption)) | exact hQ _ _ _ (fun _ _ e => e))
theorem lower_c {w : World} {s : Shared} {A : Around} {Q E : Value → Shared → Prop} {nm : Str} {t : Tok} (KX : (KK w.params).In s.heap) {n : Nat} (RA : Room n A) (hnm : nm ∈ NM)
    (hQ : ∀ h' tk' t', Up s.heap h' → Q (.str (low nm) t') { s with heap := h', toks := tk' }) : wpAny (model PW w) A (call (.builtin "str.lower") [.str nm t]) Q E s := by
  refine weaken RA ?_
  simp only [NM, List.mem_cons, List.not_mem_nil, or_false] at hnm
  rcases hnm with rfl | rfl | rfl | rfl | rfl | rfl | rfl | rfl | rfl
  all_goals (generalize PW = prog; x_run)
end
end
section
open PySem.Builtin.Re
/-- a sign that both of the program's patterns let pass -/
noncomputable abbrev okc (c : Nat) : Prop := 32 ≤ c ∧ c < 127
noncomputable abbrev okS (v : Str) : Prop := v.cps.size ≤ 1000 ∧ ∀ i, i < v.cps.size → okc (v.cps.getD i 0)
theorem adm {m : Sre.M} (hset : ∀ c, okc c → ∀ seen, ∃ seen', Sre.inSet m.code c m.code.size 5 true seen = .ok (false, seen')) (ht : ∀ i, i < m.lim → okc (m.text.getD i 0)) :
    ∀ fuel s seen, ∃ seen', Sre.M.admitted m fuel s seen = .ok (none, seen') := by
  intro fuel
  induction fuel with
  | zero => intro s seen; exact ⟨seen, rfl⟩
  | succ n ih =>
    intro s seen
    unfold Sre.M.admitted
    by_cases h : s ≥ m.lim
    · rw [if_pos h]; exact ⟨_, rfl⟩
    · rw [if_neg h]
      obtain ⟨seen', e⟩ := hset _ (ht s (by omega)) seen
      rw [e]
      exact ih _ _
noncomputable def code104 : Array Nat := #[14, 10, 4, 1, 1, 22, 0, 31, 16, 127, 0, 13, 7, 22, 0, 31, 16, 127, 0, 1]
noncomputable def code109 : Array Nat := #[14, 14, 4, 1, 1, 9, 4294966783, 0, 0, 2147483648, 0, 0, 0, 0, 0, 13, 11, 9, 4294966783, 0, 0, 2147483648, 0, 0, 0, 0, 0, 1]
theorem set104 (c : Nat) (hc : okc c) (seen : Sre.Seen) : ∃ seen', Sre.inSet code104 c code104.size 5 true seen = .ok (false, seen') := by
  have h1 : (decide (0 ≤ c) && decide (c ≤ 31)) = false := by simp; have := hc.1; omega
  have h2 : (c == 127) = false := by have := hc.2; simp; omega
  refine ⟨((seen.add 22).add 16).add 0, ?_⟩
  show (if (decide (0 ≤ c) && decide (c ≤ 31)) = true then _ else _) = _
  rw [h1]
  show (if (c == 127) = true then _ else _) = _
  rw [h2]
  rfl
theorem bits109 : ∀ c : Fin 127, 32 ≤ c.val → (decide (c.val < 256) && (code109.getD (5 + (1 + c.val / 32)) 0).testBit (c.val % 32)) = false := by decide
theorem set109 (c : Nat) (hc : okc c) (seen : Sre.Seen) : ∃ seen', Sre.inSet code109 c code109.size 5 true seen = .ok (false, seen') := by
  have h1 : (decide (c < 256) && (code109.getD (5 + (1 + c / 32)) 0).testBit (c % 32)) = false := bits109 ⟨c, hc.2⟩ hc.1
  refine ⟨(seen.add 9).add 0, ?_⟩
  show (if (decide (c < 256) && (code109.getD (5 + (1 + c / 32)) 0).testBit (c % 32)) = true then _ else _) = _
  rw [h1]
  rfl
theorem rules_any {M : Model} {A : Around} {E : Value → Shared → Prop} {s : Shared} {Q : PUnit → Shared → Prop} {body : Nat → PUnit → Sem (ForInStep PUnit)}
    (hb : ∀ i r (Q' : ForInStep PUnit → Shared → Prop), Q' (ForInStep.yield PUnit.unit) s → wpAny M A (body i r) Q' E s) (h : Q ⟨⟩ s) :
    ∀ l : List Nat, wpAny M A (forIn l PUnit.unit body) Q E s := by
  intro l
  induction l with
  | nil => exact wpAny_pure h
  | cons i l ih =>
    rw [List.forIn_cons]
    exact wpAny_bind (hb i _ _ ih)
theorem end_no {M : Model} {A : Around} {E : Value → Shared → Prop} {s : Shared} {Q : Option Sre.M → Shared → Prop} (m : Sre.M) (h1 : m.answer = some false) (h2 : m.frames = []) (h3 : m.outcome = none) (h : Q none s) :
    wpAny M A (reRunToEnd m) Q E s := by
  obtain ⟨code, text, lim, start, lastStart, wholeText, mustAdvance, pc, pos, handed, outermost, marks, lastmark, lastindex, loops, inner, frames, weight, answer, seen, outcome⟩ := m
  simp only at h1 h2 h3
  subst h1 h2 h3
  unfold reRunToEnd
  refine wpAny_bind (m := reDrive (2 ^ 64) _) ?_
  show wpAny M A (pure _) _ E s
  refine wpAny_pure ?_
  refine wpAny_bind ?_
  refine rules_any ?_ (wpAny_pure h) _
  intro i r Q' hq
  refine wpAny_ite ?_
  split
  · exact wpAny_bind (wpAny_rule (wpAny_pure hq))
  · exact wpAny_bind (wpAny_pure (wpAny_pure hq))
theorem search_pure {w : World} {A : Around} {E : Value → Shared → Prop} {s : Shared} {Q : PySem.Fin → Shared → Prop} (p q : Addr) (v : Str) (t : Tok) (fs its : Array Value) (code : Array Nat) (ep : Nat) (cl : Value)
    (h1 : s.heap.get? p = some { cls := .type "re.Pattern", data := .fields fs }) (h2 : fs.getD 5 .none = .ref q) (h3 : s.heap.get? q = some { cls := cl, data := .seq its ep })
    (h4 : (its.map reRawOf).map (fun i : Int => i.toNat) = code) (h5 : reRawNat (fs.getD 6 .none) = 0) (h6 : (Sre.header code).1 = 1) (h7 : code.getD 2 0 = 4) (h8 : Sre.ops[code.getD 0 0]? = some .INFO)
    (hset : ∀ c, okc c → ∀ seen, ∃ seen', Sre.inSet code c code.size 5 true seen = .ok (false, seen')) (hv : okS v) (h : Q (.done (.ret .none)) s) :
    wpAny (model PW w) A (Builtin.«re.Pattern.search» ⟨[.ref p, .str v t], []⟩) Q E s := by
  unfold Builtin.«re.Pattern.search»
  refine wpAny_bind ?_
  unfold reTarget
  show wpAny _ _ (reNamed "re.Pattern.search" "search" ["string", "pos", "endpos"] 1 [.str v t] [] >>= _) _ _ _
  rw [show reNamed "re.Pattern.search" "search" ["string", "pos", "endpos"] 1 [.str v t] [] = pure [some (.str v t), none, none] from rfl]
  refine wpAny_bind (wpAny_pure ?_)
  dsimp only
  refine wpAny_bind (wpAny_pure ?_)
  refine wpAny_bind (wpAny_pure ?_)
  refine wpAny_bind (m := fieldsOf (.ref p)) (wpAny_bind (wpAny_load h1 (wpAny_pure ?_)))
  refine wpAny_bind (m := reTextOf (.str v t)) (wpAny_bind (m := asStr? (.str v t)) (wpAny_pure (wpAny_pure ?_)))
  dsimp only
  rw [h5]
  rw [if_neg (by decide), if_neg (by decide), h2]
  refine wpAny_bind (m := reNoCollectionInside (.str v t) 0) (wpAny_pure ?_)
  refine wpAny_bind (m := reRawItems (.ref q)) (wpAny_bind (m := seqItems? (.ref q)) (wpAny_bind (wpAny_load h3 (wpAny_pure (wpAny_pure (wpAny_pure ?_))))))
  dsimp only [Option.getD_some]
  rw [h4, show min (Int.toNat 0) v.cps.size = 0 from by simp, show min (2 ^ 63 - 1 : Int).toNat v.cps.size = v.cps.size from by have := hv.1; omega]
  unfold reAnswer
  refine wpAny_bind ?_
  have key : ∃ m : Sre.M, Sre.forSearch code v.cps (reRawNat (fs.getD 2 Value.none)) 0 v.cps.size false = m ∧ m.answer = some false ∧ m.frames = [] ∧ m.outcome = none := by
    unfold Sre.forSearch
    dsimp only
    by_cases hz : (decide (0 > v.cps.size) || decide (v.cps.size - 0 < (Sre.header code).1)) = true
    · rw [if_pos hz]; exact ⟨_, rfl, rfl, rfl, rfl⟩
    · rw [if_neg hz]
      unfold Sre.M.attemptFrom
      have hf : ∀ m : Sre.M, m.code = code → m.hasFirstSet = true := by
        intro m hm
        unfold Sre.M.hasFirstSet
        rw [hm, h8, h7]; rfl
      refine ⟨_, rfl, ?_⟩
      rw [hf _ rfl, if_neg (by decide)]
      generalize hm : ({ code := _, text := _, lim := _, start := _, lastStart := _, wholeText := _, mustAdvance := _, pc := _, pos := _, handed := _, outermost := _, marks := _, lastmark := _, lastindex := _, loops := _, inner := _, frames := _, weight := _, answer := _, seen := _, outcome := _ } : Sre.M) = m
      obtain ⟨seen', e⟩ := adm (m := m) (by rw [← hm]; exact hset) (by rw [← hm]; exact fun i hi => hv.2 i hi) (m.lim + 1 - 0) 0 m.seen
      rw [e]
      subst hm
      exact ⟨rfl, rfl, rfl⟩
  obtain ⟨m, e, k1, k2, k3⟩ := key
  rw [e]
  exact end_no m k1 k2 k3 (wpAny_pure h)
end
section
theorem pa_re : PlainAttrs "re.Pattern" :=
  ⟨⟨"object.__getattribute__", by rw [typeLookup_type, builtinLookup_eq_fast]; kernel_rfl, by decide +kernel⟩, by rw [typeLookup_type, builtinLookup_eq_fast]; kernel_rfl⟩
theorem slot_re : Slot "re.Pattern" "search" "re.Pattern.search" :=
  .of (owner := "re.Pattern") (n := "search") (by rw [typeLookup_type, builtinLookup_eq_fast]; kernel_rfl) (by decide +kernel) (by decide +kernel) (by decide +kernel)
    (by first | exact .inl (by decide +kernel) | exact .inr (by decide +kernel)) (by rw [isSubtype_type]; kernel_rfl)
theorem type_re : typeOf (.builtin "re.Pattern.search") = pure (.type "method_descriptor") := by show builtinType _ = _; rw [builtinType_eq_fast]; kernel_rfl
theorem entry_re : entryFor table "re.Pattern.search" = some Builtin.«re.Pattern.search» := entryFor_of_fast (by kernel_rfl)
theorem args_re (a b : Value) : argsOk "re.Pattern.search" ⟨[a, b], []⟩ := by unfold argsOk; kernel_rfl
section
variable {w : World} {p : Program} {loose : List Str} {mg mb : Str → Option Value}
theorem search_c {n : Nat} {A : Around} {Q E : Value → Shared → Prop} {s : Shared} {v : Str} {t : Tok} {r : Addr} (KX : (KK w.params).In s.heap) (RA : Room n A) (hr : r = 104 ∨ r = 109) (hv : okS v) (h : Q .none s) :
    wpAny (model PW w) A (call (.builtin "re.Pattern.search") [.ref r, .str v t]) Q E s := by
  refine wpAny_call ?_
  rcases hr with rfl | rfl
  · refine codeAny_call_builtin slot_re.plain entry_re (slot_re.check _ _ _ _ _ _ _ _ (show s.TypeIs (.ref 104) "re.Pattern" from ⟨_, KX _ _ (by k_is), rfl⟩) (args_re _ _) ?_)
    exact search_pure 104 103 v t _ _ code104 _ _ (KX _ _ (by k_is)) rfl (KX _ _ (by k_is)) (by kernel_rfl) rfl rfl rfl rfl set104 hv h
  · refine codeAny_call_builtin slot_re.plain entry_re (slot_re.check _ _ _ _ _ _ _ _ (show s.TypeIs (.ref 109) "re.Pattern" from ⟨_, KX _ _ (by k_is), rfl⟩) (args_re _ _) ?_)
    exact search_pure 109 108 v t _ _ code109 _ _ (KX _ _ (by k_is)) rfl (KX _ _ (by k_is)) (by kernel_rfl) rfl rfl rfl rfl set109 hv h
theorem search_m {A : Around} {Q : Value × List Value → Shared → Prop} {E : Value → Shared → Prop} {s : Shared} {r : Addr} {pl : Sem Bool} (KX : (KK w.params).In s.heap) (hr : r = 104 ∨ r = 109) (h : Q (.builtin "re.Pattern.search", [.ref r]) s) :
    wpAny (model PW w) A (getMethod (.ref r) (Str.ofString "search") pl) Q E s := by
  rcases hr with rfl | rfl
  · exact getMethod_builtin ⟨_, KX _ _ (by k_is), rfl⟩ pa_re slot_re type_re (fun a e => by cases e; exact ⟨_, KX _ _ (by k_is), rfl⟩) h
  · exact getMethod_builtin ⟨_, KX _ _ (by k_is), rfl⟩ pa_re slot_re type_re (fun a e => by cases e; exact ⟨_, KX _ _ (by k_is), rfl⟩) h
theorem conv_c {A : Around} {Q E : Value → Shared → Prop} {s : Shared} {H : Addr} {v : Str} {t : Tok} {b : Bool} (TW : Tops w p loose mg mb) (KX : (KK w.params).In s.heap) (RA : Room 1 A) (hv : okS v)
    (hQ : ∀ h' tk', Up s.heap h' → Q (.str v t) { s with heap := h', toks := tk' }) :
    wpAny (model PW w) A (call (.ref 139) [.ref H, .str v t] [(Str.ofString "name", .bool b)]) Q E s := by
  refine enterC (n := 0) [] TW KX nil_hide RA (by k_is) (by k_is) (kp_binds KX (fun _ => rfl)) (locs rfl) ?_ (by decide)
  intro h₀ L h₁ tk₁ F N X T₀ hup hdn hlt R₁
  (try dsimp only)
  cases b
  all_goals (
    k_steps
    refine search_m (Frag.In.keeps X (Fr.keep (by assumption))) (by first | exact .inl rfl | exact .inr rfl) ?_
    k_steps
    refine search_c (Frag.In.keeps X (Fr.keep (by assumption))) R₁ (by first | exact .inl rfl | exact .inr rfl) hv ?_
    k_steps
    exact hQ _ _ (fun b o e => Fr.keep (by assumption) b o (hup b o nil_ne e)))
end
end
section
theorem ok_names : ∀ x ∈ NM, okS x := by
  intro x hx
  simp only [NM, List.mem_cons, List.not_mem_nil, or_false] at hx
  rcases hx with rfl | rfl | rfl | rfl | rfl | rfl | rfl | rfl | rfl
  all_goals exact ⟨by decide, by decide⟩
theorem low_mem : ∀ x ∈ NM, low x ∈ NM := by decide
section
variable {w : World} {p : Program} {loose : List Str} {mg mb : Str → Option Value}
/-- a head: its object, its dict and its list -/
structure HeadAt (h : Heap) (H d l : Addr) (hh : Int) (kt : Tok) (n e : Nat) (its : Array Value) : Prop where
  inst : h.get? H = some (instObj 238 d)
  dict : h.get? d = some (dictOf [⟨hh, .str (Str.ofString "_headers") kt, .ref l⟩] n)
  list : h.get? l = some (lstO its e)
  hi : hiA H ∧ hiA d ∧ hiA l
noncomputable abbrev headNews (H d l : Addr) (hh : Int) (kt : Tok) (n e : Nat) (its : Array Value) : List (Addr × Obj) := [(H, instObj 238 d), (d, dictOf [⟨hh, .str (Str.ofString "_headers") kt, .ref l⟩] n), (l, lstO its e)]
theorem HeadAt.hide {s : Shared} {H d l : Addr} {hh : Int} {kt : Tok} {n e : Nat} {its : Array Value} (D : HeadAt s.heap H d l hh kt n e its) : ∀ p ∈ headNews H d l hh kt n e its, s.heap.get? p.1 = some p.2 ∧ hiA p.1 := by
  intro p hp
  simp only [headNews, List.mem_cons, List.not_mem_nil, or_false] at hp
  rcases hp with rfl | rfl | rfl
  · exact ⟨D.inst, D.hi.1⟩
  · exact ⟨D.dict, D.hi.2.1⟩
  · exact ⟨D.list, D.hi.2.2⟩
/-- the rows that a list of pairs tells -/
noncomputable def Rows (h : Heap) (its : Array Value) (rows : List (Str × Str)) : Prop :=
  its.size = rows.length ∧ ∀ (i : Nat) (kv : Str × Str), rows[i]? = some kv → ∃ r t1 t2, its[i]? = some (Value.ref r) ∧ h.get? r = some (tupO [.str kv.1 t1, .str kv.2 t2])
theorem get_ne {h : Heap} {a b : Addr} {o o' : Obj} (e : h.get? a = some o) (e' : h.get? b = some o') (n : o.cls ≠ o'.cls) : a ≠ b := by
  rintro rfl
  rw [e] at e'
  cases e'
  exact n rfl
theorem HeadAt.tup {h : Heap} {H d l : Addr} {hh : Int} {kt : Tok} {n e : Nat} {its : Array Value} (D : HeadAt h H d l hh kt n e its) {r : Addr} {vs : List Value} (hr : h.get? r = some (tupO vs)) : ∀ p ∈ headNews H d l hh kt n e its, r ≠ p.1 := by
  intro p hp
  simp only [headNews, List.mem_cons, List.not_mem_nil, or_false] at hp
  rcases hp with rfl | rfl | rfl
  · exact get_ne hr D.inst (by simp)
  · exact get_ne hr D.dict (by simp)
  · exact get_ne hr D.list (by simp)
theorem isTup_of {h : Heap} {r : Addr} {vs : List Value} (e : h.get? r = some (tupO vs)) : IsTup h r vs.toArray := ⟨_, e, rfl, 0, rfl⟩
noncomputable abbrev two (x y : Str) (u v : Option Value) (m : Str → Option Value) : Str → Option Value := fun z => if z = x then u else if z = y then v else m z
theorem two_self (x y : Str) (m : Str → Option Value) : m = two x y (m x) (m y) m := by
  funext z
  unfold two
  by_cases h1 : z = x
  · rw [if_pos h1, h1]
  · rw [if_neg h1]
    by_cases h2 : z = y
    · rw [if_pos h2, h2]
    · rw [if_neg h2]
theorem two_set {x y : Str} (hxy : x ≠ y) (a b u v : Option Value) (m : Str → Option Value) : (fun z => if z = y then a else if z = x then b else two x y u v m z) = two x y b a m := by
  funext z
  unfold two
  by_cases h1 : z = x
  · subst h1; rw [if_neg hxy, if_pos rfl, if_pos rfl]
  · by_cases h2 : z = y
    · subst h2; rw [if_pos rfl, if_neg h1, if_pos rfl]
    · rw [if_neg h2, if_neg h1, if_neg h1, if_neg h2, if_neg h1, if_neg h2]
theorem up_news {h₀ h h' : Heap} {L : Addr} {m : Str → Option Value} {news nw : List (Addr × Obj)} (F : Fr h₀ L h' m) (N : News h₀ L h' nw) (hup : ∀ b o, (∀ p ∈ news, b ≠ p.1) → h.get? b = some o → h₀.get? b = some o) (hn : ∀ p ∈ news, h.get? p.1 = some p.2 ∧ hiA p.1)
    (hs : ∀ p ∈ news, p ∈ nw) : Up h h' := by
  intro b o e
  by_cases hb : ∃ p ∈ news, b = p.1
  · obtain ⟨p, hp, rfl⟩ := hb
    rw [(hn p hp).1] at e; cases e
    exact (N p (hs p hp)).1
  · exact F.keep b o (hup b o (fun p hp q => hb ⟨p, hp, q⟩) e)
theorem find_at {rows : List (Str × Str)} {f : Str × Str → Bool} {i : Nat} (hi : i < rows.length) (h : f rows[i] = true) (hn : ∀ (j : Nat) kv, j < i → rows[j]? = some kv → f kv = false) : rows.find? f = some rows[i] := by
  rw [List.find?_eq_some_iff_getElem]
  exact ⟨h, i, hi, rfl, fun j hj => by rw [hn j _ hj (List.getElem?_eq_getElem (by omega))]; rfl⟩
theorem find_no {rows : List (Str × Str)} {f : Str × Str → Bool} (hn : ∀ (j : Nat) kv, j < rows.length → rows[j]? = some kv → f kv = false) : rows.find? f = none := by
  rw [List.find?_eq_none]
  intro x hx
  obtain ⟨j, hj, rfl⟩ := List.getElem_of_mem hx
  rw [hn j _ hj (List.getElem?_eq_getElem hj)]; exact Bool.false_ne_true
/-- what get answers -/
noncomputable def Got (rows : List (Str × Str)) (nm : Str) (dv v : Value) : Prop :=
  (∃ k x t, rows.find? (fun r => low r.1 == low nm) = some (k, x) ∧ v = .str x t) ∨ (rows.find? (fun r => low r.1 == low nm) = none ∧ v = dv)
theorem get_c {A : Around} {Q E : Value → Shared → Prop} {s : Shared} {H d l : Addr} {hh : Int} {kt : Tok} {n' e : Nat} {its : Array Value} {nm : Str} {t : Tok} (TW : Tops w p loose mg mb) (KX : (KK w.params).In s.heap) (RA : Room 2 A)
    {rows : List (Str × Str)} (D : HeadAt s.heap H d l hh kt n' e its) (hnm : nm ∈ NM) (hR : Rows s.heap its rows) (hk : ∀ kv ∈ rows, kv.1 ∈ NM)
    (hQ : ∀ v h' tk', Up s.heap h' → Got rows nm .none v → Q v { s with heap := h', toks := tk' }) :
    wpAny (model PW w) A (call (.ref 185) [.ref H, .str nm t]) Q E s := by
  refine enterC (n := 1) (headNews H d l hh kt n' e its) TW KX D.hide RA (by k_is) (by k_is) (kp_binds KX (fun _ => rfl)) (locs rfl) ?_ (by decide)
  intro h₀ L h₁ tk₁ F N X T₀ hup hdn hlt R₁
  (try dsimp only)
  k_steps
  refine lower_c (Frag.In.keeps X F.keep) R₁ hnm ?_
  intro h₂ tk₂ t₂ up₂
  have F := F.keeps up₂
  have N := N.grown up₂
  (try dsimp only)
  k_steps
  refine conv_c TW (Frag.In.keeps X F.keep) R₁ (ok_names _ (low_mem _ hnm)) ?_
  intro h₃ tk₃ up₃
  have F := F.keeps up₃
  have N := N.grown up₃
  (try dsimp only)
  k_steps
  refine wpAny_For ?_
  k_steps
  (rename Fr _ _ _ _ => F)
  (rename News _ _ _ _ => N)
  refine iterN (its := its) (fun i m nw => nw = headNews H d l hh kt n' e its ∧ (∃ u v, m = two (Str.ofString "k") (Str.ofString "v") u v _) ∧ ∀ (j : Nat) kv, j < i → rows[j]? = some kv → (low kv.1 == low nm) = false) R₁.handled F N ⟨rfl, ⟨_, _, two_self _ _ _⟩, fun _ _ h => absurd h (Nat.not_lt_zero _)⟩ ?_ ?_ ?_
  · rintro i m nw h ⟨rfl, _⟩ _ N
    exact News.isList N (List.Mem.tail _ (List.Mem.tail _ (List.Mem.head _)))
  · rintro I i v m nw h tk o hlI hv ⟨rfl, ⟨u, v', rfl⟩, hno⟩ hio F N hI
    have hi : i < rows.length := by
      have := (Array.getElem?_eq_some_iff.mp hv).1
      rw [hR.1] at this; exact this
    obtain ⟨r, t1, t2, e1, e2⟩ := hR.2 i rows[i] (List.getElem?_eq_getElem hi)
    rw [e1] at hv
    cases hv
    have htup : IsTup h₀ r [Value.str rows[i].1 t1, Value.str rows[i].2 t2].toArray := isTup_of (hup r _ (D.tup e2) e2)
    replace F : Fr h₀ L h _ := F
    replace N : News h₀ L h _ := N
    (try dsimp only)
    k_steps
    (rename Fr _ _ _ _ => F)
    (rename News _ _ _ _ => N)
    refine lower_c (Frag.In.keeps X F.keep) R₁ (hk _ (List.getElem_mem hi)) ?_
    intro h₅ tk₅ t₅ up₅
    have F := F.keeps up₅
    have N := N.grown up₅
    (try dsimp only)
    k_steps
    · (rename _ = true => hb)
      show Q (.str rows[i].2 t2) _
      exact hQ _ _ _ (up_news F N hup D.hide fun p hp => List.mem_cons_of_mem _ hp) (.inl ⟨rows[i].1, rows[i].2, t2, find_at hi hb hno, rfl⟩)
    · (rename _ = false => hb)
      refine ⟨h₅, tk₅, _, _, rfl, F, N, hI, rfl, ⟨_, _, two_set (by decide) _ _ _ _ _⟩, ?_⟩
      intro j kv hj hkv
      rcases Nat.lt_succ_iff_lt_or_eq.mp hj with hj | rfl
      · exact hno j kv hj hkv
      · rw [List.getElem?_eq_getElem hi] at hkv; cases hkv; exact hb
  · rintro m nw h tk ⟨rfl, ⟨u, v', rfl⟩, hno⟩ F N
    (try dsimp only)
    k_steps
    replace F : Fr h₀ L h _ := F
    replace N : News h₀ L h _ := N
    exact hQ _ _ _ (up_news F N hup D.hide fun p hp => hp) (.inr ⟨find_no (fun j kv hj => hno j kv (by rw [hR.1]; exact hj)), rfl⟩)
end
end
section
section
variable {w : World} {p : Program} {loose : List Str} {mg mb : Str → Option Value}
/-- the same for a def that keeps cells -/
theorem enterCc {n : Nat} {A : Around} {Q E : Value → Shared → Prop} {s : Shared} {name qual : Str} {params : Arguments} {body : List Stmt} {scope : Scope} {dV kV doc pm cdv ct oc : Value} {an od : Option Addr} {osl : Array (Option Value)} {f : Addr} {pos : List Value} {kw : List (Str × Value)} {binds : List (Str × Value)} (news : List (Addr × Obj))
    (TW : Tops w p loose mg mb) (KX : (KK w.params).In s.heap) (hn : ∀ p ∈ news, s.heap.get? p.1 = some p.2 ∧ hiA p.1) (hroom : Room (n + 1) A)
    (ho : (KK w.params).lookup f = some ⟨oc, od, .func (fnOf name qual params body scope dV kV doc pm an cdv ct), osl⟩) (hcd : codeIn (KK w.params) cdv qual = true)
    (hbind : BindsTo s (fnOf name qual params body scope dV kV doc pm an cdv ct) ⟨pos, kw⟩ binds) (hkind : (binds.all fun y => scope.names.lookup y.1 == some .local || scope.names.lookup y.1 == some .cell) = true)
    (hnd : ((cellsFrom 0 scope.names []).map (·.1)).Nodup)
    (h : ∀ h₀ L h₁ tk cells, Fr h₀ L h₁ (bindL (envOfC qual scope L f cdv).kindOf binds fun _ => none) → News h₀ L h₁ (cells ++ news) →
      CellsAre (bindC (envOfC qual scope L f cdv).kindOf binds fun _ => none) (cellsFrom (L + 1) scope.names []) cells → (KK w.params).In h₀ → TopRead p loose mg mb h₀ → (∀ b o, (∀ p ∈ news, b ≠ p.1) → s.heap.get? b = some o → h₀.get? b = some o) → Up h₀ s.heap → (∀ p ∈ news, p.1 < L) → Room n ((AL n).deeper (envOfC qual scope L f cdv)) →
      wpAny (model PW w) ((AL n).deeper (envOfC qual scope L f cdv)) (execs body (envOfC qual scope L f cdv))
        (fun fl s' => Q (match fl with | .ret v => v | _ => .none) s') (fun _ _ => False) { s with heap := h₁, toks := tk })
    (hco : scope.isCoroutine = false := by rfl) (hgen : scope.isGenerator = false := by rfl) (hk : scope.kind = .function := by rfl) :
    wpAny (model PW w) A (call (.ref f) pos kw) Q E s := by
  refine wpAny_call ?_
  have X₀ : (KK w.params).In (hideAll s.heap (news.map (·.1))) := by
    intro a o e
    refine hideAll_get _ (KX a o e) fun hm => ?_
    obtain ⟨p, hp, rfl⟩ := List.mem_map.mp hm
    rw [khi _ (hn p hp).2] at e; cases e
  refine codeAny_call_function (Nat.lt_of_le_of_lt (Nat.le_trans (Nat.le_add_right _ _) hroom.depth) (by decide)) (KX _ _ ho) rfl hco hgen rfl (codeRec_of KX hcd) (hbind _ _ _ _ ?_)
  refine wpAny_newFunctionEnv_cells hk (kindsX hkind _) fun env' he s' x => ?_
  subst he
  refine ⟨(TW _ KX).nolimit.keeps x.toInCall.keep, codeAny_func ?_⟩
  obtain ⟨h₁, tk, rfl, _⟩ := x.done
  have hk₁ := x.toInCall.keep
  obtain ⟨cells, NC, Y⟩ := Cl.news (h₀ := s.heap) (Nat.le_refl _) fun n c hm => ⟨x.cell n c (lookup_of_mem_nodup (cellsFrom_names scope.names 0 (s.heap.objs.size + 1) [] [] rfl ▸ hnd) hm), x.above n c hm⟩
  refine weakenL hroom (wpAny_mono (h (hideAll s.heap (news.map (·.1))) s.heap.objs.size h₁ tk cells ⟨x.toInCall.ns, fun b o e => hk₁ b o (of_hideAll _ e), Nat.le_of_eq (hideAll_size _ _)⟩ (fun p hp => ?_) Y X₀ (TW _ X₀) (fun b o hb e => hideAll_get _ e fun hm => ?_) (fun b o e => of_hideAll _ e) (fun p hp => Heap.lt_size (hn p hp).1) ⟨rfl, by have := hroom.depth; show 899 - n + 1 + n ≤ 900; omega, by have := hroom.units; show 1990 - 10 * n + 3 + 10 * n ≤ 2000; omega⟩) (fun _ _ h => h) fun _ _ h => h.elim)
  · rcases List.mem_append.mp hp with hp | hp
    · refine ⟨(NC p hp).1, (NC p hp).2.1, ?_⟩
      cases q : (hideAll s.heap (news.map (·.1))).get? p.1 with
      | none => rfl
      | some o => have := (NC p hp).2.2; rw [of_hideAll _ q] at this; cases this
    · exact ⟨hk₁ _ _ (hn p hp).1, Nat.ne_of_lt (Heap.lt_size (hn p hp).1), hideAll_none _ (List.mem_map_of_mem hp)⟩
  · obtain ⟨p, hp, e⟩ := List.mem_map.mp hm
    exact hb p hp e.symm
theorem restT_ind {A : Around} {h₀ : Heap} {L : Addr} {m : Str → Option Value} {env : Env} {ct elt : PySem.Expr} {x : Str} {scope : Scope} {cl : List (Str × Addr)} {s : Shared} {S : List (Addr × Obj) → Prop} {P : Nat → Value → Prop} {Fin : List Value → List (Addr × Obj) → Prop} {n : Nat} {news : List (Addr × Obj)}
    (Inv : Nat → List Value → Prop) (h0 : Inv 0 []) (fin : ∀ ys, Inv n ys → Fin ys news)
    (step : ∀ k i ys, i < n → Inv i ys → (∀ ys', Inv (i + 1) ys' → LCt.CompRestT PW w A h₀ L m env ct elt x scope cl s S P Fin k (i + 1) ys' news) → LCt.CompRestT PW w A h₀ L m env ct elt x scope cl s S P Fin (k + 1) i ys news) :
    LCt.CompRestT PW w A h₀ L m env ct elt x scope cl s S P Fin n 0 [] news := by
  have key : ∀ k i ys, i + k = n → Inv i ys → LCt.CompRestT PW w A h₀ L m env ct elt x scope cl s S P Fin k i ys news := by
    intro k
    induction k with
    | zero =>
      intro i ys hik hinv
      obtain rfl : i = n := by omega
      exact LCt.CompRestT.zero (fin ys hinv)
    | succ k ih => exact fun i ys hik hinv => step k i ys (by omega) hinv fun ys' h' => ih (i + 1) ys' (by omega) h'
  exact key n 0 [] (by omega) h0
end
end
section
noncomputable def strOf : Value → Option Str
  | .str x _ => some x
  | _ => none
/-- these values are these texts -/
noncomputable def Strs (ys : List Value) (xs : List Str) : Prop := ys.map strOf = xs.map some
theorem Strs.snoc {ys : List Value} {xs : List Str} {x : Str} {t : Tok} (h : Strs ys xs) : Strs (ys ++ [.str x t]) (xs ++ [x]) := by
  unfold Strs at *
  rw [List.map_append, List.map_append, h]; rfl
theorem filter_snoc {α : Type} {rows : List α} {i : Nat} (hi : i < rows.length) (f : α → Bool) : (rows.take (i + 1)).filter f = (rows.take i).filter f ++ (if f rows[i] then [rows[i]] else []) := by
  rw [← List.take_append_getElem hi, List.filter_append]
  cases h : f rows[i] <;> simp [h]
theorem new_of {h₀ h h' : Heap} {L a : Addr} {o : Obj} {news nw : List (Addr × Obj)} (N : News h₀ L h' nw) (hm : (a, o) ∈ nw) (hup : ∀ b o, (∀ p ∈ news, b ≠ p.1) → h.get? b = some o → h₀.get? b = some o) (hne : ∀ p ∈ news, a ≠ p.1) : h.get? a = none := by
  cases e : h.get? a with
  | none => rfl
  | some o' => have := (N _ hm).2.2; rw [hup a o' hne e] at this; cases this
theorem kw1 : True := by
  (k_with "eval ListComp" => refine hold ?_)
  trivial
section
variable {w : World} {p : Program} {loose : List Str} {mg mb : Str → Option Value}
theorem getall_c {A : Around} {Q E : Value → Shared → Prop} {s : Shared} {H d l : Addr} {hh : Int} {kt : Tok} {n' e : Nat} {its : Array Value} {nm : Str} {t : Tok} (TW : Tops w p loose mg mb) (KX : (KK w.params).In s.heap) (RA : Room 2 A)
    {rows : List (Str × Str)} (D : HeadAt s.heap H d l hh kt n' e its) (hnm : nm ∈ NM) (hR : Rows s.heap its rows) (hk : ∀ kv ∈ rows, kv.1 ∈ NM) (hz : its.size ≤ 1000)
    (hQ : ∀ D₁ ys e₁ h' tk', Up s.heap h' → s.heap.get? D₁ = none → h'.get? D₁ = some (lstO ys.toArray e₁) → Strs ys ((rows.filter fun r => low r.1 == low nm).map (·.2)) → Q (.ref D₁) { s with heap := h', toks := tk' }) :
    wpAny (model PW w) A (call (.ref 177) [.ref H, .str nm t]) Q E s := by
  refine enterCc (n := 1) (headNews H d l hh kt n' e its) TW KX D.hide RA (by k_is) (by k_is) (kp_binds KX (fun _ => rfl)) rfl (by decide +kernel) ?_
  intro h₀ L h₁ tk₁ cells F N Y X T₀ hup hdn hlt R₁
  k_cells Y
  (try simp only [List.cons_append, List.nil_append] at N)
  (try dsimp only)
  k_steps
  (rename Fr _ _ _ _ => F)
  (rename News _ _ _ _ => N)
  refine lower_c (Frag.In.keeps X F.keep) R₁ hnm ?_
  intro h₂ tk₂ t₂ up₂
  have F := F.keeps up₂
  have N := N.grown up₂
  (try dsimp only)
  k_steps
  refine conv_c TW (Frag.In.keeps X F.keep) R₁ (ok_names _ (low_mem _ hnm)) ?_
  intro h₃ tk₃ up₃
  have F := F.keeps up₃
  have N := N.grown up₃
  (try dsimp only)
  k_steps
  unfold Hold
  (rename Fr _ _ _ _ => F)
  (rename News _ _ _ _ => N)
  refine LCt.ListComp_T F rfl (by decide) rfl (by decide) rfl ?_
  k_steps
  (try simp only [List.nil_append] at N)
  refine LCt.CompSrcT.ledger rfl F N (List.Mem.tail _ (List.Mem.tail _ (List.Mem.tail _ (List.Mem.head _)))) (Nat.le_trans hz (by decide)) ?_
  intro g
  refine restT_ind (fun i ys => Strs ys (((rows.take i).filter fun r => low r.1 == low nm).map (·.2))) (by rw [List.take_zero]; rfl) ?_ ?_
  · intro ys hinv D₁ h tk F N off
    (try dsimp only)
    k_steps
    rw [hR.1, List.take_length] at hinv
    refine hQ D₁ ys _ h tk (up_news F N hup D.hide fun p hp => List.mem_cons_of_mem _ (List.mem_cons_of_mem _ hp)) (new_of N (List.Mem.head _) hup ?_) (N _ (List.Mem.head _)).1 hinv
    intro p hp
    simp only [headNews, List.mem_cons, List.not_mem_nil, or_false] at hp
    rcases hp with rfl | rfl | rfl
    · exact Ne.symm off.2.1
    · exact Ne.symm off.2.2.1
    · exact Ne.symm off.2.2.2.1
  · intro k i ys hi hinv ih
    refine LCt.CompRestT.succ ?_
    intro v I oI C oC D₁ m₂ h tk E' hv hNs hx F N off ne
    have hi : i < rows.length := by rw [← hR.1]; exact hi
    obtain ⟨r, t1, t2, e1, e2⟩ := hR.2 i rows[i] (List.getElem?_eq_getElem hi)
    rw [e1] at hv
    cases hv
    have htup : IsTup h₀ r [Value.str rows[i].1 t1, Value.str rows[i].2 t2].toArray := isTup_of (hup r _ (D.tup e2) e2)
    (try dsimp only)
    k_steps
    refine lower_c (Frag.In.keeps X F.keep) R₁ (hk _ (List.getElem_mem hi)) ?_
    intro h₅ tk₅ t₅ up₅
    have F := F.keeps up₅
    have N := N.grown up₅
    (try dsimp only)
    k_steps
    · (rename _ = true => hb)
      refine LCg.CompEnd.intro F N _ (fun p hp => hp) off (.inr ⟨_, List.Mem.tail _ (List.Mem.tail _ (List.Mem.tail _ (List.Mem.head _))), rfl, _, rfl⟩) (ih _ ?_)
      rw [filter_snoc hi, if_pos hb, List.map_append]
      exact hinv.snoc
    · (rename _ = false => hb)
      refine LCg.CompEnd.intro F N _ (fun p hp => hp) off (.inr ⟨_, List.Mem.tail _ (List.Mem.tail _ (List.Mem.tail _ (List.Mem.head _))), rfl, _, rfl⟩) (ih _ ?_)
      rw [filter_snoc hi, if_neg (by rw [hb]; exact Bool.false_ne_true), List.append_nil]
      exact hinv
end
end
theorem kw2 : True := by
  k_with_none
  trivial
section
section
variable {w : World}
theorem setSlice_all {A : Around} {E : Value → Shared → Prop} {s : Shared} {Q : Unit → Shared → Prop} {l sl D : Addr} {its ys : Array Value} {e e₁ : Nat} (hl : s.heap.get? l = some (lstO its e)) (hs : s.heap.IsSliceOf sl .none .none .none) (hD : s.heap.get? D = some (lstO ys e₁)) (hne : l ≠ D)
    (hz : its.size + ys.size ≤ 10000) (h : ∀ h' e', Heap.SameBut l s.heap h' → h'.get? l = some (lstO ys e') → Q () { s with heap := h' }) :
    wpAny (model PW w) A (setItem (.ref l) (.ref sl) (.ref D)) Q E s := by
  have hL : s.heap.IsList l its := ⟨_, hl, rfl, _, rfl⟩
  obtain ⟨os, hos, hcs, hds⟩ := id hs
  have hTs : s.TypeIs (.ref sl) "slice" := ⟨os, hos, hcs⟩
  unfold setItem
  try with_reducible refine wpAny_holding ?_
  first | refine wpAny_bind (wpAny_pure ?_) | skip
  refine wpAny_bind (wpAny_sequenceKey hL.typeIs (by decide) ?_)
  refine wpAny_bind (wpAny_callSpecial?_slot (name := Str.ofString "__setitem__") hL.typeIs slot_list_setitem
    (wpAny_call_entry slot_list_setitem hL.typeIs entry_list_setitem ?_ (args_list_setitem _ _ _)))
  show wpAny _ _ (Builtin.List.listSubscript? (.ref sl) >>= _) _ _ s
  refine wpAny_bind ?_
  unfold Builtin.List.listSubscript?
  refine wpAny_bind (wpAny_specialOf hTs slice_no_index ?_)
  simp only [Option.isNone_none, if_true]
  refine wpAny_pure ?_
  show wpAny _ _ (typeOf (.ref sl) >>= _) _ _ s
  refine wpAny_bind (wpAny_typeOf hTs ?_)
  rw [if_neg (by decide)]
  rw [listSliceParts_eq]
  refine wpAny_bind (wpAny_bind (wpAny_field hos hds (x := .none) rfl (wpAny_bind (wpAny_listPart .none ?_))))
  rw [if_neg (by exact Bool.false_ne_true)]
  refine wpAny_bind (wpAny_field hos hds (x := .none) rfl (wpAny_bind (wpAny_listPart .none ?_)))
  refine wpAny_bind (wpAny_field hos hds (x := .none) rfl (wpAny_bind (wpAny_listPart .none (wpAny_pure ?_))))
  dsimp only
  have hsr : Builtin.List.listSameRef (.ref l) (.ref D) = false := by show (l == D) = false; exact beq_false_of_ne hne
  rw [hsr, if_neg Bool.false_ne_true]
  refine wpAny_bind (m := Builtin.List.listAllItems (.ref D) _) ?_
  unfold Builtin.List.listAllItems
  refine wpAny_bind (wpAny_typeOf (show s.TypeIs (.ref D) "list" from ⟨_, hD, rfl⟩) ?_)
  rw [if_pos (by decide)]
  refine wpAny_listItems hD rfl ?_
  refine wpAny_bind (wpAny_listItems hl rfl ?_)
  refine wpAny_bind (wpAny_of_eq (sliceIndices_raw none none none its.size (by simp)) ?_)
  have hb : sliceBounds none none none its.size = (0, (its.size : Int), 1) := rfl
  rw [hb]
  dsimp only
  rw [if_pos (by decide)]
  refine wpAny_bind (wpAny_rule ?_)
  rw [if_neg (by unfold Builtin.List.listTooLong; have : sizeLine = 16777216 := rfl; simp only [decide_eq_true_eq]; omega)]
  have hf : (its.extract 0 (Int.toNat 0) ++ ys ++ its.extract (max 0 (its.size : Int)).toNat its.size) = ys := by simp
  refine wpAny_bind (m := updateSeq l _) (wpAny_updateSeq hl rfl ?_ (by have : sizeLine = 16777216 := rfl; omega) (by have : sizeLine = 16777216 := rfl; rw [hf]; omega))
  refine wpAny_bind (wpAny_letGo (wpAny_pure ⟨_, rfl, wpAny_pure ?_⟩))
  refine h _ (if ys.size == its.size then e else e + 1) (Heap.SameBut.update ..) ?_
  rw [Heap.get?_update_self _ hl (by rfl)]
  show some (Obj.mapSeq _ (lstO its e)) = _
  unfold Obj.mapSeq lstO
  dsimp only
  rw [hf]
end
end
section
inductive All2 {α β : Type} (R : α → β → Prop) : List α → List β → Prop
  | nil : All2 R [] []
  | cons {x : α} {y : β} {xs : List α} {ys : List β} : R x y → All2 R xs ys → All2 R (x :: xs) (y :: ys)
theorem All2.snoc {α β : Type} {R : α → β → Prop} {x : α} {y : β} (r : R x y) : ∀ {xs : List α} {ys : List β}, All2 R xs ys → All2 R (xs ++ [x]) (ys ++ [y])
  | _, _, .nil => .cons r .nil
  | _, _, .cons h t => .cons h (All2.snoc r t)
theorem All2.length {α β : Type} {R : α → β → Prop} : ∀ {xs : List α} {ys : List β}, All2 R xs ys → xs.length = ys.length
  | _, _, .nil => rfl
  | _, _, .cons _ t => congrArg (· + 1) t.length
theorem All2.mono {α β : Type} {R R' : α → β → Prop} (h : ∀ x y, R x y → R' x y) : ∀ {xs : List α} {ys : List β}, All2 R xs ys → All2 R' xs ys
  | _, _, .nil => .nil
  | _, _, .cons r t => .cons (h _ _ r) (t.mono h)
theorem All2.get {α β : Type} {R : α → β → Prop} : ∀ {xs : List α} {ys : List β}, All2 R xs ys → ∀ (i : Nat) y, ys[i]? = some y → ∃ x, xs[i]? = some x ∧ R x y
  | _, _, .nil, i, y, e => by simp at e
  | _, _, .cons (x := x) r _, 0, y, e => by simp at e; exact ⟨x, rfl, e ▸ r⟩
  | _, _, .cons _ t, i + 1, y, e => by simp at e; simpa using t.get i y e
/-- this value is this row -/
noncomputable def RowOf (h : Heap) (v : Value) (kv : Str × Str) : Prop := ∃ r t1 t2, v = Value.ref r ∧ h.get? r = some (tupO [.str kv.1 t1, .str kv.2 t2])
theorem rows_of {h : Heap} {ys : List Value} {rows : List (Str × Str)} (H : All2 (RowOf h) ys rows) : Rows h ys.toArray rows := by
  refine ⟨by simpa using H.length, fun i kv e => ?_⟩
  obtain ⟨x, e1, r, t1, t2, rfl, e2⟩ := H.get i kv e
  exact ⟨r, t1, t2, by simpa using e1, e2⟩
theorem upbut_news {h₀ h h' : Heap} {L l : Addr} {m : Str → Option Value} {news nw : List (Addr × Obj)} (F : Fr h₀ L h' m) (N : News h₀ L h' nw) (hup : ∀ b o, (∀ p ∈ news, b ≠ p.1) → h.get? b = some o → h₀.get? b = some o) (hn : ∀ p ∈ news, h.get? p.1 = some p.2 ∧ hiA p.1)
    (hs : ∀ p ∈ news, p.1 ≠ l → p ∈ nw) : UpBut l h h' := by
  intro b o hbl e
  by_cases hb : ∃ p ∈ news, b = p.1
  · obtain ⟨p, hp, rfl⟩ := hb
    rw [(hn p hp).1] at e; cases e
    exact (N p (hs p hp hbl)).1
  · exact F.keep b o (hup b o (fun p hp q => hb ⟨p, hp, q⟩) e)
theorem rowOf_but {h h' : Heap} {l : Addr} {its : Array Value} {e : Nat} {v : Value} {kv : Str × Str} (hl : h.get? l = some (lstO its e)) (u : UpBut l h h') (r : RowOf h v kv) : RowOf h' v kv := by
  obtain ⟨a, t1, t2, rfl, e2⟩ := r
  exact ⟨a, t1, t2, rfl, u a _ (get_ne e2 hl (by simp)) e2⟩
theorem kw3 : True := by
  (k_with "eval ListComp" => refine hold ?_)
  trivial
theorem kw4 : True := by
  (k_with "exec Assign cons ListComp" => refine hold ?_)
  trivial
section
variable {w : World} {p : Program} {loose : List Str} {mg mb : Str → Option Value}
theorem del_c {A : Around} {Q E : Value → Shared → Prop} {s : Shared} {H d l : Addr} {hh : Int} {kt : Tok} {n' e : Nat} {its : Array Value} {nm : Str} {t : Tok} (TW : Tops w p loose mg mb) (KX : (KK w.params).In s.heap) (RA : Room 2 A)
    {rows : List (Str × Str)} (D : HeadAt s.heap H d l hh kt n' e its) {hB : Heap} (hnm : nm ∈ NM) (hR : Rows hB its rows) (uB : Up hB s.heap) (hk : ∀ kv ∈ rows, kv.1 ∈ NM) (hz : its.size ≤ 1000)
    (hQ : ∀ ys e₁ h' tk', UpBut l s.heap h' → h'.get? l = some (lstO ys e₁) → Rows hB ys (rows.filter fun r => low r.1 != low nm) → Q .none { s with heap := h', toks := tk' }) :
    wpAny (model PW w) A (call (.ref 158) [.ref H, .str nm t]) Q E s := by
  refine enterCc (n := 1) (headNews H d l hh kt n' e its) TW KX D.hide RA (by k_is) (by k_is) (kp_binds KX (fun _ => rfl)) rfl (by decide +kernel) ?_
  intro h₀ L h₁ tk₁ cells F N Y X T₀ hup hdn hlt R₁
  k_cells Y
  (try simp only [List.cons_append, List.nil_append] at N)
  (try dsimp only)
  k_steps
  (rename Fr _ _ _ _ => F)
  (rename News _ _ _ _ => N)
  refine lower_c (Frag.In.keeps X F.keep) R₁ hnm ?_
  intro h₂ tk₂ t₂ up₂
  have F := F.keeps up₂
  have N := N.grown up₂
  (try dsimp only)
  k_steps
  refine conv_c TW (Frag.In.keeps X F.keep) R₁ (ok_names _ (low_mem _ hnm)) ?_
  intro h₃ tk₃ up₃
  have F := F.keeps up₃
  have N := N.grown up₃
  (try dsimp only)
  k_steps
  unfold Hold
  (rename Fr _ _ _ _ => F)
  (rename News _ _ _ _ => N)
  refine wpAny_Assign_Subscript ?_
  refine LCt.ListComp_T F rfl (by decide) rfl (by decide) rfl ?_
  k_steps
  (try simp only [List.nil_append] at N)
  refine LCt.CompSrcT.ledger rfl F N (List.Mem.tail _ (List.Mem.tail _ (List.Mem.tail _ (List.Mem.head _)))) (Nat.le_trans hz (by decide)) ?_
  intro g
  refine restT_ind (fun i ys => All2 (RowOf hB) ys ((rows.take i).filter fun r => low r.1 != low nm)) (by rw [List.take_zero]; exact .nil) ?_ ?_
  · intro ys hinv D₁ h tk F N off
    (try dsimp only)
    k_steps
    rw [hR.1, List.take_length] at hinv
    have hl₁ := (N (l, lstO its e) (List.Mem.tail _ (List.Mem.tail _ (List.Mem.tail _ (List.Mem.tail _ (List.Mem.head _)))))).1
    have hD₁ := (N (D₁, LCg.lst ys) (List.Mem.head _)).1
    have hlen : ys.length ≤ its.size := by rw [hinv.length, hR.1]; exact List.length_filter_le _ _
    refine setSlice_all (its := its) (e := e) (ys := ys.toArray) (Heap.get?_push_of_some _ hl₁) (Heap.IsSliceOf.new ..) (Heap.get?_push_of_some _ hD₁) off.2.2.2.1 (by simp; omega) ?_
    intro h₆ e₆ sb hl₆
    have hlL : l ≠ L := (N (l, lstO its e) (List.Mem.tail _ (List.Mem.tail _ (List.Mem.tail _ (List.Mem.tail _ (List.Mem.head _)))))).2.1
    have hl0 : h₀.get? l = none := (N (l, lstO its e) (List.Mem.tail _ (List.Mem.tail _ (List.Mem.tail _ (List.Mem.tail _ (List.Mem.head _)))))).2.2
    have F := (F.push { cls := .type "slice", data := .fields #[.none, .none, .none] }).change sb hlL hl0
    have N : News h₀ L h₆ [(H, instObj 238 d), (d, dictOf [⟨hh, .str (Str.ofString "_headers") kt, .ref l⟩] n')] := by
      intro p hp
      have hp' : p ∈ headNews H d l hh kt n' e its := by
        rcases List.mem_cons.mp hp with rfl | hp
        · exact List.Mem.head _
        · rcases List.mem_cons.mp hp with rfl | hp
          · exact List.Mem.tail _ (List.Mem.head _)
          · cases hp
      have q := N p (List.mem_cons_of_mem _ (List.mem_cons_of_mem _ hp'))
      refine ⟨(sb.2 _ ?_).trans (Heap.get?_push_of_some _ q.1), q.2⟩
      rcases List.mem_cons.mp hp with rfl | hp
      · exact get_ne D.inst D.list (by simp)
      · rcases List.mem_cons.mp hp with rfl | hp
        · exact get_ne D.dict D.list (by simp)
        · cases hp
    have ub : UpBut l s.heap h₆ := upbut_news F N hup D.hide (fun p hp hpl => by
      simp only [headNews, List.mem_cons, List.not_mem_nil, or_false] at hp
      rcases hp with rfl | rfl | rfl
      · exact List.Mem.head _
      · exact List.Mem.tail _ (List.Mem.head _)
      · exact absurd rfl hpl)
    (try dsimp only)
    k_steps
    exact hQ _ _ _ _ ub hl₆ (rows_of hinv)
  · intro k i ys hi hinv ih
    refine LCt.CompRestT.succ ?_
    intro v I oI C oC D₁ m₂ h tk E' hv hNs hx F N off ne
    have hi : i < rows.length := by rw [← hR.1]; exact hi
    obtain ⟨r, t1, t2, e1, e2⟩ := hR.2 i rows[i] (List.getElem?_eq_getElem hi)
    have e1' := e1
    rw [e1] at hv
    cases hv
    have htup : IsTup h₀ r [Value.str rows[i].1 t1, Value.str rows[i].2 t2].toArray := isTup_of (hup r _ (D.tup (uB _ _ e2)) (uB _ _ e2))
    (try dsimp only)
    k_steps
    refine lower_c (Frag.In.keeps X F.keep) R₁ (hk _ (List.getElem_mem hi)) ?_
    intro h₅ tk₅ t₅ up₅
    have F := F.keeps up₅
    have N := N.grown up₅
    (try dsimp only)
    k_steps
    · (rename _ = true => hb)
      refine LCg.CompEnd.intro F N _ (fun p hp => hp) off (.inr ⟨_, List.Mem.tail _ (List.Mem.tail _ (List.Mem.tail _ (List.Mem.head _))), rfl, _, rfl⟩) (ih _ ?_)
      rw [filter_snoc hi, if_pos hb]
      exact hinv.snoc ⟨r, t1, t2, rfl, e2⟩
    · (rename _ = false => hb)
      refine LCg.CompEnd.intro F N _ (fun p hp => hp) off (.inr ⟨_, List.Mem.tail _ (List.Mem.tail _ (List.Mem.tail _ (List.Mem.head _))), rfl, _, rfl⟩) (ih _ ?_)
      rw [filter_snoc hi, if_neg (by rw [hb]; exact Bool.false_ne_true), List.append_nil]
      exact hinv
end
end
theorem kw5 : True := by
  k_with_none
  trivial
section
section
variable {w : World} {p : Program} {loose : List Str} {mg mb : Str → Option Value}
theorem delItem_own {K : Frag} {M : Model} {A : Around} {E : Value → Shared → Prop} {s : Shared} {h₀ : Heap} {L x C f : Addr} {m : Str → Option Value} {ox : Obj} {od : Option Obj} {v : Value} {Q : Unit → Shared → Prop} (F : Fr h₀ L s.heap m) (X₀ : K.In h₀) (I : InstAt s.heap x ox C od) (hq : noSeq K C = true) (hs : findIn K (.ref C) "__delitem__" = some (some (.ref f))) (hf : isFn K (.ref f) = true)
    (h : wpAny M A (call (.ref f) [.ref x, v]) (fun _ s' => Q () s') E s) : wpAny M A (delItem (.ref x) v) Q E s := by
  have X := X₀.keeps F.keep
  unfold delItem sequenceKey
  refine wpAny_holding (wpAny_bind (wpAny_bind (I.type.here ?_)))
  refine wpAny_bind ((anyM_none X hq).here ?_)
  rw [if_pos (show (!false) = true from rfl)]
  exact wpAny_pure (wpAny_bind (special_fn X I hs (beq_iff_eq.mp hf) (wpAny_mono h (fun _ _ z => wpAny_pure z) fun _ _ z => z)))
theorem fr_upbut {h₀ h h' : Heap} {L l : Addr} {m : Str → Option Value} (F : Fr h₀ L h m) (u : UpBut l h h') (h0 : h₀.get? l = none) (hL : l ≠ L) : Fr h₀ L h' m :=
  ⟨F.ns.at' fun o e => u _ o (Ne.symm hL) e, fun b o e => u b o (fun q => by rw [q, h0] at e; cases e) (F.keep b o e), F.above⟩
theorem news_upbut {h₀ h h' : Heap} {L H d l : Addr} {hh : Int} {kt : Tok} {n e e₁ : Nat} {its ys : Array Value} (N : News h₀ L h (headNews H d l hh kt n e its)) (u : UpBut l h h') (hl : h'.get? l = some (lstO ys e₁)) : News h₀ L h' (headNews H d l hh kt n e₁ ys) := by
  have n1 := N _ (List.Mem.head _)
  have n2 := N _ (List.Mem.tail _ (List.Mem.head _))
  have n3 := N _ (List.Mem.tail _ (List.Mem.tail _ (List.Mem.head _)))
  intro p hp
  simp only [headNews, List.mem_cons, List.not_mem_nil, or_false] at hp
  rcases hp with rfl | rfl | rfl
  · exact ⟨u _ _ (get_ne n1.1 n3.1 (by simp)) n1.1, n1.2⟩
  · exact ⟨u _ _ (get_ne n2.1 n3.1 (by simp)) n2.1, n2.2⟩
  · exact ⟨hl, n3.2⟩
theorem head_of {h₀ h : Heap} {L H d l : Addr} {hh : Int} {kt : Tok} {n e : Nat} {its : Array Value} (N : News h₀ L h (headNews H d l hh kt n e its)) (hi : hiA H ∧ hiA d ∧ hiA l) : HeadAt h H d l hh kt n e its :=
  ⟨(N _ (List.Mem.head _)).1, (N _ (List.Mem.tail _ (List.Mem.head _))).1, (N _ (List.Mem.tail _ (List.Mem.tail _ (List.Mem.head _)))).1, hi⟩
theorem rows_up {h h' : Heap} {its : Array Value} {rows : List (Str × Str)} (hR : Rows h its rows) (u : Up h h') : Rows h' its rows := ⟨hR.1, fun i kv e => by obtain ⟨r, t1, t2, e1, e2⟩ := hR.2 i kv e; exact ⟨r, t1, t2, e1, u _ _ e2⟩⟩
theorem rows_snoc {h h' : Heap} {l T : Addr} {its ys : Array Value} {e : Nat} {rows : List (Str × Str)} {k v : Str} {t1 t2 : Tok} (hl : h.get? l = some (lstO its e)) (u : UpBut l h h') (hR : Rows h ys rows) (hT : h'.get? T = some (tupO [.str k t1, .str v t2])) : Rows h' (ys.push (.ref T)) (rows ++ [(k, v)]) := by
  refine ⟨by rw [Array.size_push, List.length_append, hR.1]; rfl, fun i kv e => ?_⟩
  rcases Nat.lt_trichotomy i rows.length with hi | hi | hi
  · rw [List.getElem?_append_left hi] at e
    obtain ⟨r, t1, t2, e1, e2⟩ := hR.2 i kv e
    exact ⟨r, t1, t2, by rw [Array.getElem?_push, if_neg (by rw [hR.1]; omega)]; exact e1, u _ _ (get_ne e2 hl (by simp)) e2⟩
  · subst hi
    rw [List.getElem?_append_right (Nat.le_refl _), Nat.sub_self] at e
    cases e
    exact ⟨T, t1, t2, by rw [Array.getElem?_push, if_pos hR.1.symm], hT⟩
  · rw [List.getElem?_eq_none (by rw [List.length_append, List.length_singleton]; omega)] at e
    cases e
theorem setitem_c {A : Around} {Q E : Value → Shared → Prop} {s : Shared} {H d l : Addr} {hh : Int} {kt : Tok} {n' e : Nat} {its : Array Value} {nm v : Str} {t t' : Tok} (TW : Tops w p loose mg mb) (KX : (KK w.params).In s.heap) (RA : Room 3 A)
    {rows : List (Str × Str)} (D : HeadAt s.heap H d l hh kt n' e its) {hB : Heap} (hnm : nm ∈ NM) (hv : okS v) (hR : Rows hB its rows) (uB : Up hB s.heap) (hk : ∀ kv ∈ rows, kv.1 ∈ NM) (hz : its.size ≤ 900)
    (hQ : ∀ T ta tb ys e₁ h' tk', UpBut l s.heap h' → h'.get? l = some (lstO (ys.push (.ref T)) e₁) → Rows hB ys (rows.filter fun r => low r.1 != low nm) → h'.get? T = some (tupO [.str nm ta, .str v tb]) → s.heap.get? T = none → Q .none { s with heap := h', toks := tk' }) :
    wpAny (model PW w) A (call (.ref 153) [.ref H, .str nm t, .str v t']) Q E s := by
  refine enterC (n := 2) (headNews H d l hh kt n' e its) TW KX D.hide RA (by k_is) (by k_is) (kp_binds KX (fun _ => rfl)) (locs rfl) ?_ (by decide)
  intro h₀ L h₁ tk₁ F N X T₀ hup hdn hlt R₁
  have u₁ : Up s.heap h₁ := up_news F N hup D.hide fun p hp => hp
  (try dsimp only)
  k_steps
  refine delItem_own F X (by k_inst) (by k_is) (by k_is) (by k_is) ?_
  refine del_c TW (Frag.In.keeps X F.keep) R₁ (head_of N D.hi) hnm hR (fun b o e => u₁ b o (uB b o e)) hk (by omega) ?_
  intro ys e₁ h₂ tk₂ u₂ hl₂ hR₂
  have nl := N _ (List.Mem.tail _ (List.Mem.tail _ (List.Mem.head _)))
  have F := fr_upbut F u₂ nl.2.2 nl.2.1
  have N := news_upbut N u₂ hl₂
  have hys : ys.size ≤ 1000 := by rw [hR₂.1]; have := List.length_filter_le (fun r : Str × Str => low r.1 != low nm) rows; rw [hR.1] at hz; omega
  (try dsimp only)
  k_steps
  refine conv_c TW (Frag.In.keeps X F.keep) (R₁.less (by decide)) (ok_names _ hnm) ?_
  intro h₃ tk₃ up₃
  have F := F.keeps up₃
  have N := N.grown up₃
  (try dsimp only)
  k_steps
  refine conv_c TW (Frag.In.keeps X F.keep) (R₁.less (by decide)) hv ?_
  intro h₄ tk₄ up₄
  have F := F.keeps up₄
  have N := N.grown up₄
  have q1 : H ≠ l := get_ne D.inst D.list (by simp)
  have q2 : d ≠ l := get_ne D.dict D.list (by simp)
  have q3 : H ≠ d := get_ne D.inst D.dict (by simp)
  (try dsimp only)
  k_steps
  (rename Fr _ _ _ _ => F)
  (rename News _ _ _ _ => N)
  have ub := upbut_news (l := l) F N hup D.hide (fun p hp hpl => by
    simp only [headNews, List.mem_cons, List.not_mem_nil, or_false] at hp
    rcases hp with rfl | rfl | rfl
    · exact List.Mem.tail _ (List.Mem.head _)
    · exact List.Mem.tail _ (List.Mem.tail _ (List.Mem.head _))
    · exact absurd rfl hpl)
  refine hQ _ _ _ _ _ _ _ ub (N _ (List.Mem.tail _ (List.Mem.tail _ (List.Mem.tail _ (List.Mem.head _))))).1 hR₂ (N _ (List.Mem.head _)).1 (new_of N (List.Mem.head _) hup ?_)
  intro p hp
  simp only [headNews, List.mem_cons, List.not_mem_nil, or_false] at hp
  rcases hp with rfl | rfl | rfl
  · exact get_ne (N _ (List.Mem.head _)).1 (N _ (List.Mem.tail _ (List.Mem.head _))).1 (by simp)
  · exact get_ne (N _ (List.Mem.head _)).1 (N _ (List.Mem.tail _ (List.Mem.tail _ (List.Mem.head _)))).1 (by simp)
  · exact get_ne (N _ (List.Mem.head _)).1 (N _ (List.Mem.tail _ (List.Mem.tail _ (List.Mem.tail _ (List.Mem.head _))))).1 (by simp)
end
end
section
section
variable {w : World} {p : Program} {loose : List Str} {mg mb : Str → Option Value}
theorem wp_peek1 {α : Type} {K : Frag} {M : Model} {A : Around} {E : Value → Shared → Prop} {Q : α → Shared → Prop} {s : Shared} {o : Obj} {r : Addr → α} (X : K.In s.heap) (q : Q (r s.heap.objs.size) { s with heap := s.heap.push o }) :
    ∀ (t : Sem α) (g : Addr → Option α), peek1 K ⟨M.prog, M.w.params⟩ t = some (o, g) → (∀ D, g D = some (r D)) → wpAny M A t Q E s := by
  intro t
  induction t with
  | rule _ k ih => intro g e hg Γ p hΓ; exact ih () g e hg Γ p hΓ
  | point _ k ih => intro g e hg Γ p hΓ; exact ih () g e hg Γ p hΓ
  | ask k ih => intro g e hg Γ p hΓ; exact ih _ g e hg Γ p hΓ
  | load a _ k ih =>
    intro g e hg Γ p hΓ
    simp only [peek1] at e
    split at e
    · rename_i ob ho; exact ⟨ob, X _ _ ho, ih ob g e hg Γ p hΓ⟩
    · cases e
  | alloc ob k _ =>
    intro g e hg
    have e : some (ob, fun D => peek K ⟨M.prog, M.w.params⟩ (k D)) = some (o, g) := e
    obtain ⟨e1, e2⟩ := Prod.mk.inj (Option.some.inj e)
    subst e1
    subst e2
    have X' : K.In (s.heap.push ob) := X.keeps fun b x hb => Heap.get?_push_of_some _ hb
    show wpAny M A (alloc ob >>= k) Q E s
    refine wpAny_bind (wpAny_alloc ?_)
    exact (Looks.of_peek (M := M) (h := s.heap.push ob) X' (hg s.heap.objs.size)).here (s := { s with heap := s.heap.push ob }) q
  | _ => intro g e; cases e
theorem enterKw {n : Nat} {A : Around} {Q E : Value → Shared → Prop} {s : Shared} {name qual : Str} {params : Arguments} {body : List Stmt} {scope : Scope} {dV kV doc pm cdv ct oc : Value} {an od : Option Addr} {osl : Array (Option Value)} {f : Addr} {pos : List Value} {kw : List (Str × Value)} {g₁ : Addr → Option (List (Str × Value))} {binds : Addr → List (Str × Value)} {oD : Obj} (news : List (Addr × Obj))
    (TW : Tops w p loose mg mb) (KX : (KK w.params).In s.heap) (hn : ∀ p ∈ news, s.heap.get? p.1 = some p.2 ∧ hiA p.1) (hroom : Room (n + 1) A)
    (ho : (KK w.params).lookup f = some ⟨oc, od, .func (fnOf name qual params body scope dV kV doc pm an cdv ct), osl⟩) (hcd : codeIn (KK w.params) cdv qual = true)
    (hp : peek1 (KK w.params) ⟨PW, w.params⟩ (bindArgs (fnOf name qual params body scope dV kV doc pm an cdv ct) ⟨pos, kw⟩) = some (oD, g₁)) (hg : ∀ D, g₁ D = some (binds D)) (hf : oD.isFreed = false) (hloc : ∀ D, ∀ y ∈ binds D, scope.names.lookup y.1 = some .local)
    (h : ∀ h₀ L h₁ tk D, 286 ≤ D → (∀ p ∈ news, p.1 < D) → D < L → Fr h₀ L h₁ (fun y => (binds D).reverse.lookup y) → News h₀ L h₁ ((D, oD) :: news) → (KK w.params).In h₀ → TopRead p loose mg mb h₀ → (∀ b o, (∀ p ∈ news, b ≠ p.1) → s.heap.get? b = some o → h₀.get? b = some o) → (∀ p ∈ news, p.1 < L) → Room n ((AL n).deeper (envOf qual scope L f cdv)) →
      wpAny (model PW w) ((AL n).deeper (envOf qual scope L f cdv)) (execs body (envOf qual scope L f cdv))
        (fun fl s' => Q (match fl with | .ret v => v | _ => .none) s') (fun _ _ => False) { s with heap := h₁, toks := tk })
    (hcell : ∀ x ∈ scope.names, x.2 ≠ .cell) (hco : scope.isCoroutine = false := by rfl) (hgen : scope.isGenerator = false := by rfl) (hk : scope.kind = .function := by rfl) :
    wpAny (model PW w) A (call (.ref f) pos kw) Q E s := by
  refine wpAny_call ?_
  refine codeAny_call_function (fd := fnOf name qual params body scope dV kV doc pm an cdv ct) (body := body) (Nat.lt_of_le_of_lt (Nat.le_trans (Nat.le_add_right _ _) hroom.depth) (by decide)) (KX _ _ ho) rfl hco hgen rfl (codeRec_of KX hcd) ?_
  refine wp_peek1 KX (r := binds) ?_ _ g₁ hp hg
  refine wpAny_newFunctionEnv hcell (hloc _) (fun h₁ hns hsb => ⟨?_, codeAny_func ?_⟩) hk
  · exact ((TW _ KX).nolimit.keeps fun b x hb => Heap.get?_push_of_some _ hb).fresh _ hsb
  have KX' : (KK w.params).In (s.heap.push oD) := KX.keeps fun b x hb => Heap.get?_push_of_some _ hb
  have hk₁ : ∀ b o, (s.heap.push oD).get? b = some o → h₁.get? b = some o := fun b o e => hsb.extBut b o (Nat.ne_of_lt (Heap.lt_size e)) (Heap.get?_push_of_some _ e)
  have hsz : (s.heap.push oD).objs.size = s.heap.objs.size + 1 := Heap.size_push _ _
  have h286 : 286 ≤ s.heap.objs.size := by
    have hq : ((KK w.params).lookup 285).isSome = true := by kernel_rfl
    obtain ⟨o, e⟩ := Option.isSome_iff_exists.mp hq
    exact Heap.lt_size (KX _ _ e)
  have hn' : ∀ p ∈ (s.heap.objs.size, oD) :: news, (s.heap.push oD).get? p.1 = some p.2 ∧ hiA p.1 := by
    intro p hp
    rcases List.mem_cons.mp hp with rfl | hp
    · exact ⟨Heap.get?_push_size _ hf, hi_of h286⟩
    · exact ⟨Heap.get?_push_of_some _ (hn p hp).1, (hn p hp).2⟩
  have X₀ : (KK w.params).In (hideAll (s.heap.push oD) (((s.heap.objs.size, oD) :: news).map (·.1))) := by
    intro a o e
    refine hideAll_get _ (KX' a o e) fun hm => ?_
    obtain ⟨p, hp, rfl⟩ := List.mem_map.mp hm
    rw [khi _ (hn' p hp).2] at e; cases e
  refine weakenL hroom (wpAny_mono (h (hideAll (s.heap.push oD) (((s.heap.objs.size, oD) :: news).map (·.1))) (s.heap.push oD).objs.size h₁ _ s.heap.objs.size h286 (fun p hp => Heap.lt_size (hn p hp).1) (by rw [hsz]; exact Nat.lt_succ_self _) ⟨hns, fun b o e => hk₁ b o (of_hideAll _ e), Nat.le_of_eq (hideAll_size _ _)⟩
    (fun p hp => ⟨hk₁ _ _ (hn' p hp).1, Nat.ne_of_lt (Heap.lt_size (hn' p hp).1), hideAll_none _ (List.mem_map_of_mem hp)⟩) X₀ (TW _ X₀) (fun b o hb e => hideAll_get _ (Heap.get?_push_of_some _ e) fun hm => ?_) (fun p hp => Heap.lt_size (hn' p (List.mem_cons_of_mem _ hp)).1) ⟨rfl, by have := hroom.depth; show 899 - n + 1 + n ≤ 900; omega, by have := hroom.units; show 1990 - 10 * n + 3 + 10 * n ≤ 2000; omega⟩) (fun _ _ h => h) fun _ _ h => h.elim)
  obtain ⟨p, hp, e'⟩ := List.mem_map.mp hm
  rcases List.mem_cons.mp hp with rfl | hp
  · exact Nat.lt_irrefl _ (e' ▸ Heap.lt_size e)
  · exact hb p hp e'.symm
set_option hygiene false in
local macro_rules | `(tactic| x_close) => `(tactic| first | exact hQ _ _ (up_of (by assumption)) | exact hQ _ _ (fun _ _ e => e))
theorem join1_c {n : Nat} {A : Around} {Q E : Value → Shared → Prop} {s : Shared} {l : Addr} {v : Str} {t t' : Tok} {e : Nat} (KX : (KK w.params).In s.heap) (RA : Room n A) (hl : s.heap.get? l = some { cls := .type "list", dict := none, data := .seq { toList := [.str v t'] } e, slots := #[] })
    (hQ : ∀ h' tk', Up s.heap h' → Q (.str v t') { s with heap := h', toks := tk' }) : wpAny (model PW w) A (call (.builtin "str.join") [.str (Str.ofString "; ") t, .ref l]) Q E s := by
  refine weaken RA ?_
  (generalize PW = prog; x_run)
theorem newsTail {h₀ h : Heap} {L : Addr} {q : Addr × Obj} {nw : List (Addr × Obj)} (N : News h₀ L h (q :: nw)) : News h₀ L h nw := fun p hp => N p (List.mem_cons_of_mem _ hp)
theorem add_c {A : Around} {Q E : Value → Shared → Prop} {s : Shared} {H d l : Addr} {hh : Int} {kt : Tok} {n' e : Nat} {its : Array Value} {nm v : Str} {t t' : Tok} (TW : Tops w p loose mg mb) (KX : (KK w.params).In s.heap) (RA : Room 2 A)
    {rows : List (Str × Str)} (D : HeadAt s.heap H d l hh kt n' e its) (hnm : nm ∈ NM) (hv : okS v) (hR : Rows s.heap its rows) (hz : its.size ≤ 900)
    (hQ : ∀ T ta tb e₁ h' tk', UpBut l s.heap h' → h'.get? l = some (lstO (its.push (.ref T)) e₁) → h'.get? T = some (tupO [.str nm ta, .str v tb]) → s.heap.get? T = none → Q .none { s with heap := h', toks := tk' }) :
    wpAny (model PW w) A (call (.ref 235) [.ref H, .str nm t, .str v t']) Q E s := by
  refine enterKw (n := 1) (oD := dictOf [] 0) (headNews H d l hh kt n' e its) TW KX D.hide RA (by k_is) (by k_is) rfl (fun _ => rfl) rfl (fun _ => locs rfl) ?_ (by decide)
  intro h₀ L h₁ tk₁ dK hdK hlt0 hdL F N X T₀ hup hlt R₁
  (try dsimp only)
  have q1 : H ≠ l := get_ne D.inst D.list (by simp)
  have q2 : d ≠ l := get_ne D.dict D.list (by simp)
  have q3 : H ≠ d := get_ne D.inst D.dict (by simp)
  have q4 : @LT.lt Nat _ H dK := hlt0 (H, instObj 238 d) (List.Mem.head _)
  have q5 : @LT.lt Nat _ d dK := hlt0 _ (List.Mem.tail _ (List.Mem.head _))
  have q6 : @LT.lt Nat _ l dK := hlt0 _ (List.Mem.tail _ (List.Mem.tail _ (List.Mem.head _)))
  k_steps
  (rename Fr _ _ _ _ => F)
  (rename News _ _ _ _ => N)
  refine conv_c TW (Frag.In.keeps X F.keep) R₁ hv ?_
  intro h₃ tk₃ up₃
  have F := F.keeps up₃
  have N := N.grown up₃
  (try dsimp only)
  k_steps
  (rename Fr _ _ _ _ => F)
  (rename News _ _ _ _ => N)
  have lo : (dK == sysModules) = false := beq_false_of_ne (Nat.ne_of_gt (Nat.lt_of_lt_of_le (by decide) hdK))
  have hde : (dictOf [] 0).IsDictOf (strKind PW w) [] := ⟨#[], 0, ⟨rfl, rfl, rfl⟩, rfl, by intro e he; simp at he, .nil, List.nodup_nil⟩
  refine For_pair_inv h₀ (MethodCall_ ?_)
  with_unfolding_all refine ld F (by rfl) ?_
  refine getMethod_tab PySem.F.slot_dict_items PySem.F.type_dict_items (TabAt.ofNews (enc := PyData.str) (D := []) N (List.Mem.tail _ (List.Mem.head _)) lo hde .nil) ?_
  refine callWith_method0 ?_
  refine call_items_tab (TabAt.ofNews (enc := PyData.str) (D := []) N (List.Mem.tail _ (List.Mem.head _)) lo hde .nil) F N ?_
  intro h₅ o₅ hv₅ F N
  refine Iter_strTabItems rfl rfl rfl rfl hv₅ (TabAt.ofNews (enc := PyData.str) (D := []) N (List.Mem.tail _ (List.Mem.tail _ (List.Mem.head _))) lo hde .nil) F N (.inr ⟨_, List.Mem.tail _ (List.Mem.tail _ (List.Mem.head _))⟩) (fun _ m' => m' = _) rfl ?_ ?_
  · intro i k dv t v m₁ s₁ own hD
    simp at hD
  intro h₆ tk₆ m₆ F N hm
  subst hm
  replace F : Fr h₀ L h₆ _ := F
  replace N : News h₀ L h₆ _ := N
  replace N := newsTail N
  (try dsimp only)
  k_steps
  refine conv_c TW (Frag.In.keeps X F.keep) R₁ (ok_names _ hnm) ?_
  intro h₇ tk₇ up₇
  have F := F.keeps up₇
  have N := N.grown up₇
  (try dsimp only)
  k_steps
  refine join1_c (Frag.In.keeps X F.keep) R₁ (N _ (List.Mem.head _)).1 ?_
  intro h₈ tk₈ up₈
  have F := F.keeps up₈
  have N := N.grown up₈
  (try unfold headNews at N)
  (try dsimp only)
  k_steps
  (rename Fr _ _ _ _ => F)
  (rename News _ _ _ _ => N)
  have ub := upbut_news (l := l) F N hup D.hide (fun p hp hpl => by
    simp only [headNews, List.mem_cons, List.not_mem_nil, or_false] at hp
    rcases hp with rfl | rfl | rfl
    · exact List.Mem.tail _ (List.Mem.tail _ (List.Mem.tail _ (List.Mem.head _)))
    · exact List.Mem.tail _ (List.Mem.tail _ (List.Mem.tail _ (List.Mem.tail _ (List.Mem.head _))))
    · exact absurd rfl hpl)
  refine hQ _ _ _ _ _ _ ub (N _ (List.Mem.tail _ (List.Mem.tail _ (List.Mem.tail _ (List.Mem.tail _ (List.Mem.tail _ (List.Mem.head _))))))).1 (N _ (List.Mem.head _)).1 (new_of N (List.Mem.head _) hup ?_)
  intro p hp
  simp only [headNews, List.mem_cons, List.not_mem_nil, or_false] at hp
  rcases hp with rfl | rfl | rfl
  · exact get_ne (N _ (List.Mem.head _)).1 (N _ (List.Mem.tail _ (List.Mem.tail _ (List.Mem.tail _ (List.Mem.head _))))).1 (by simp)
  · exact get_ne (N _ (List.Mem.head _)).1 (N _ (List.Mem.tail _ (List.Mem.tail _ (List.Mem.tail _ (List.Mem.tail _ (List.Mem.head _)))))).1 (by simp)
  · exact get_ne (N _ (List.Mem.head _)).1 (N _ (List.Mem.tail _ (List.Mem.tail _ (List.Mem.tail _ (List.Mem.tail _ (List.Mem.tail _ (List.Mem.head _))))))).1 (by simp)
end
end
section
section
variable {w : World} {p : Program} {loose : List Str} {mg mb : Str → Option Value}
/-- what setdefault leaves, what it answers -/
noncomputable def dflt (rows : List (Str × Str)) (nm v : Str) : List (Str × Str) × Str :=
  match rows.find? (fun r => low r.1 == low nm) with
  | some kv => (rows, kv.2)
  | none => (rows ++ [(nm, v)], v)
theorem default_c {A : Around} {Q E : Value → Shared → Prop} {s : Shared} {H d l : Addr} {hh : Int} {kt : Tok} {n' e : Nat} {its : Array Value} {nm v : Str} {t t' : Tok} (TW : Tops w p loose mg mb) (KX : (KK w.params).In s.heap) (RA : Room 3 A)
    {rows : List (Str × Str)} (D : HeadAt s.heap H d l hh kt n' e its) (hnm : nm ∈ NM) (hv : okS v) (hR : Rows s.heap its rows) (hk : ∀ kv ∈ rows, kv.1 ∈ NM) (hz : its.size ≤ 900)
    (hQ : ∀ ys e₁ a t₁ h' tk', UpBut l s.heap h' → h'.get? l = some (lstO ys e₁) → ((∃ k, rows.find? (fun r => low r.1 == low nm) = some (k, a) ∧ ys = its) ∨ (rows.find? (fun r => low r.1 == low nm) = none ∧ a = v ∧ ∃ T ta tb, ys = its.push (.ref T) ∧ h'.get? T = some (tupO [.str nm ta, .str v tb]) ∧ s.heap.get? T = none)) → Q (.str a t₁) { s with heap := h', toks := tk' }) :
    wpAny (model PW w) A (call (.ref 228) [.ref H, .str nm t, .str v t']) Q E s := by
  refine enterC (n := 2) (headNews H d l hh kt n' e its) TW KX D.hide RA (by k_is) (by k_is) (kp_binds KX (fun _ => rfl)) (locs rfl) ?_ (by decide)
  intro h₀ L h₁ tk₁ F N X T₀ hup hdn hlt R₁
  have u₁ : Up s.heap h₁ := up_news F N hup D.hide fun p hp => hp
  have q1 : H ≠ l := get_ne D.inst D.list (by simp)
  have q2 : d ≠ l := get_ne D.dict D.list (by simp)
  have q3 : H ≠ d := get_ne D.inst D.dict (by simp)
  (try dsimp only)
  k_steps
  refine get_c TW (Frag.In.keeps X F.keep) R₁ (head_of N D.hi) hnm (rows_up hR u₁) hk ?_
  intro v₂ h₂ tk₂ u₂ hgot
  have F := F.keeps u₂
  have N := N.grown u₂
  rcases hgot with ⟨k₂, x₂, t₂, hf, rfl⟩ | ⟨hf, rfl⟩
  · (try dsimp only)
    k_steps
    (rename Fr _ _ _ _ => F)
    (rename News _ _ _ _ => N)
    have ub : UpBut l s.heap _ := fun b o _ e => (up_news F N hup D.hide fun p hp => hp) b o e
    exact hQ _ _ _ _ _ _ ub (N _ (List.Mem.tail _ (List.Mem.tail _ (List.Mem.head _)))).1 (.inl ⟨_, hf, rfl⟩)
  · (try dsimp only)
    k_steps
    (rename Fr _ _ _ _ => F)
    (rename News _ _ _ _ => N)
    refine conv_c TW (Frag.In.keeps X F.keep) (R₁.less (by decide)) (ok_names _ hnm) ?_
    intro h₃ tk₃ up₃
    have F := F.keeps up₃
    have N := N.grown up₃
    (try dsimp only)
    k_steps
    refine conv_c TW (Frag.In.keeps X F.keep) (R₁.less (by decide)) hv ?_
    intro h₄ tk₄ up₄
    have F := F.keeps up₄
    have N := N.grown up₄
    (try unfold headNews at N)
    (try dsimp only)
    k_steps
    (rename Fr _ _ _ _ => F)
    (rename News _ _ _ _ => N)
    have ub := upbut_news (l := l) F N hup D.hide (fun p hp hpl => by
      simp only [headNews, List.mem_cons, List.not_mem_nil, or_false] at hp
      rcases hp with rfl | rfl | rfl
      · exact List.Mem.tail _ (List.Mem.head _)
      · exact List.Mem.tail _ (List.Mem.tail _ (List.Mem.head _))
      · exact absurd rfl hpl)
    refine hQ _ _ _ _ _ _ ub (N _ (List.Mem.tail _ (List.Mem.tail _ (List.Mem.tail _ (List.Mem.head _))))).1 (.inr ⟨hf, rfl, _, _, _, rfl, (N _ (List.Mem.head _)).1, new_of N (List.Mem.head _) hup ?_⟩)
    intro p hp
    simp only [headNews, List.mem_cons, List.not_mem_nil, or_false] at hp
    rcases hp with rfl | rfl | rfl
    · exact get_ne (N _ (List.Mem.head _)).1 (N _ (List.Mem.tail _ (List.Mem.head _))).1 (by simp)
    · exact get_ne (N _ (List.Mem.head _)).1 (N _ (List.Mem.tail _ (List.Mem.tail _ (List.Mem.head _)))).1 (by simp)
    · exact get_ne (N _ (List.Mem.head _)).1 (N _ (List.Mem.tail _ (List.Mem.tail _ (List.Mem.tail _ (List.Mem.head _))))).1 (by simp)
end
end
section
section
variable {w : World} {p : Program} {loose : List Str} {mg mb : Str → Option Value}
noncomputable def IterT (o : Obj) (l : Addr) (i : Nat) : Prop := o.cls = .type "tuple_iterator" ∧ o.data = .fields #[.ref l, .int i 0]
theorem goes_tup {A : Around} {target : PySem.Expr} {I : Addr} {v : Value} {o : Obj} {l : Addr} {i : Nat} {s : Shared} {Q : Unit → Shared → Prop} {E : Value → Shared → Prop} (ho : s.heap.get? I = some o) (hi : IterT o l i) (h : Q () s) :
    wpAny (model PW w) A (letOwnedTupleGo target (.ref I) v) Q E s := by
  obtain ⟨c, d, dt, sl⟩ := o
  obtain ⟨h1, h2⟩ := hi
  dsimp only at h1 h2
  subst h1 h2
  unfold letOwnedTupleGo
  split
  · cases v with
    | ref a => exact wpAny_bind (wpAny_load ho (by exact wpAny_pure h))
    | _ => exact wpAny_pure h
  · cases v with
    | ref a => exact wpAny_bind (wpAny_load ho (by exact wpAny_pure h))
    | _ => exact wpAny_pure h
  · exact wpAny_pure h
/-- a loop over a tuple that stands below, with an else: by an invariant -/
theorem loopT {A : Around} {env : Env} {h₀ : Heap} {target : PySem.Expr} {body orelse : List Stmt} {Q : Flow → Shared → Prop} {s : Shared} {I l : Addr} {its : Array Value} {o₀ : Obj} {m₀ : Str → Option Value} {nw₀ : List (Addr × Obj)}
    (Inv : Nat → (Str → Option Value) → List (Addr × Obj) → Prop) (hh : A.handled = none) (F : Fr h₀ env.locals s.heap m₀) (N : News h₀ env.locals s.heap ((I, o₀) :: nw₀)) (hI : ∀ q ∈ nw₀, q.1 ≠ I) (hi : IterT o₀ l 0) (h0 : Inv 0 m₀ nw₀)
    (hl : h₀.IsTuple l its)
    (turn : ∀ i v m nw h tk o, its[i]? = some v → Inv i m nw → Fr h₀ env.locals h m → News h₀ env.locals h ((I, o) :: nw) → (∀ q ∈ nw, q.1 ≠ I) →
      wpAny (model PW w) A (assign target env v) (fun _ s₂ => wpAny (model PW w) A (execs body env) (StepN h₀ env.locals I o s (Inv (i + 1)) Q) (fun _ _ => False) s₂) (fun _ _ => False) { s with heap := h, toks := tk })
    (done : ∀ m nw h tk, Inv its.size m nw → Fr h₀ env.locals h m → News h₀ env.locals h nw → wpAny (model PW w) A (execs orelse env) Q (fun _ _ => False) { s with heap := h, toks := tk }) :
    codeAny (model PW w) A (.forLoop target (.ref I) body orelse env) (fun r s' => match r with | .ok f => Q f s' | .error e => cameBackBy (model PW w) A env (fun _ _ => False) e s') s := by
  refine codeAny_forLoop_any
    (fun k s' => ∃ h' tk m nw i o, s' = { s with heap := h', toks := tk } ∧ Fr h₀ env.locals h' m ∧ News h₀ env.locals h' ((I, o) :: nw) ∧ (∀ q ∈ nw, q.1 ≠ I) ∧ IterT o l i ∧ Inv i m nw ∧ i ≤ its.size ∧ k = its.size + 1 - i) ?_ (its.size + 1)
    ⟨s.heap, s.toks, m₀, nw₀, 0, o₀, rfl, F, N, hI, hi, h0, Nat.zero_le _, rfl⟩
  rintro k s' ⟨h', tk, m, nw, i, o, rfl, F', N', hI', hi', hJ, hle, rfl⟩
  have hIt : h'.IsTupleIter I l i := ⟨o, (N' _ (List.Mem.head _)).1, hi'.1, hi'.2⟩
  have N₁ : News h₀ env.locals h' nw := fun p hp => N' p (List.mem_cons_of_mem _ hp)
  have hL : h'.IsTuple l its := hl.at fun o e => F'.keep _ o e
  have hI0 : h₀.get? I = none := (N' _ (List.Mem.head _)).2.2
  have hIL : I ≠ env.locals := (N' _ (List.Mem.head _)).2.1
  by_cases hlt : i < its.size
  · refine wpAny_pyNext_tuple_item hIt hL (x := its[i]) (by simp [hlt]) fun h₁ hit₁ hs₁ => ?_
    obtain ⟨o₁, ho₁, hc₁, hd₁⟩ := hit₁
    have F₁ := F'.change hs₁ hIL hI0
    have N₂ : News h₀ env.locals h₁ ((I, o₁) :: nw) := fun p hp => by
      rcases List.mem_cons.mp hp with rfl | hp
      · exact ⟨ho₁, hIL, hI0⟩
      · exact ⟨(hs₁.2 _ (hI' p hp)).trans (N₁ p hp).1, (N₁ p hp).2⟩
    refine goes_tup (s := { s with heap := h₁, toks := tk }) (o := o₁) ho₁ ⟨hc₁, hd₁⟩ ?_
    refine wpAny_mono (turn i its[i] m nw h₁ tk o₁ (by simp [hlt]) hJ F₁ N₂ hI') (fun _ s₂ h₂ => wpAny_mono h₂ (fun f s₃ h₃ => ?_) fun _ _ e => e.elim) fun _ _ e => e.elim
    cases f with
    | ret v => exact h₃
    | brk => exact h₃
    | cont =>
      obtain ⟨h₃', tk₃, m₃, nw₃, rfl, F₃, N₃, hI₃, hJ₃⟩ := h₃
      exact ⟨its.size + 1 - (i + 1), by omega, h₃', tk₃, m₃, nw₃, i + 1, o₁, rfl, F₃, N₃, hI₃, ⟨hc₁, hd₁⟩, hJ₃, hlt, rfl⟩
    | next =>
      obtain ⟨h₃', tk₃, m₃, nw₃, rfl, F₃, N₃, hI₃, hJ₃⟩ := h₃
      exact ⟨its.size + 1 - (i + 1), by omega, h₃', tk₃, m₃, nw₃, i + 1, o₁, rfl, F₃, N₃, hI₃, ⟨hc₁, hd₁⟩, hJ₃, hlt, rfl⟩
  · have hin : i = its.size := by omega
    subst hin
    refine wpAny_pyNext_tuple_end hh hIt hL (by simp) fun h₁ he₁ => ?_
    have F₁ : Fr h₀ env.locals h₁ m := ⟨F'.ns.at' fun o e => he₁ _ o (Ne.symm hIL) e, fun b o e => he₁ b o (fun q => by rw [q, hI0] at e; cases e) (F'.keep b o e), F'.above⟩
    exact wpAny_mono (done m nw h₁ tk hJ F₁ fun p hp => ⟨he₁ _ _ (hI' p hp) (N₁ p hp).1, (N₁ p hp).2⟩) (fun _ _ h => h) fun _ _ e => e.elim
theorem iterT {A : Around} {env : Env} {h₀ : Heap} {target : PySem.Expr} {body orelse : List Stmt} {Q : Flow → Shared → Prop} {s : Shared} {l : Addr} {its : Array Value} {m₀ : Str → Option Value} {nw₀ : List (Addr × Obj)}
    (Inv : Nat → (Str → Option Value) → List (Addr × Obj) → Prop) (hh : A.handled = none) (F : Fr h₀ env.locals s.heap m₀) (N : News h₀ env.locals s.heap nw₀) (h0 : Inv 0 m₀ nw₀)
    (hl : h₀.IsTuple l its)
    (turn : ∀ I i v m nw h tk o, (∀ q ∈ nw₀, q.1 < I) → its[i]? = some v → Inv i m nw → Fr h₀ env.locals h m → News h₀ env.locals h ((I, o) :: nw) → (∀ q ∈ nw, q.1 ≠ I) →
      wpAny (model PW w) A (assign target env v) (fun _ s₂ => wpAny (model PW w) A (execs body env) (StepN h₀ env.locals I o s (Inv (i + 1)) Q) (fun _ _ => False) s₂) (fun _ _ => False) { s with heap := h, toks := tk })
    (done : ∀ m nw h tk, Inv its.size m nw → Fr h₀ env.locals h m → News h₀ env.locals h nw → wpAny (model PW w) A (execs orelse env) Q (fun _ _ => False) { s with heap := h, toks := tk }) :
    wpAny (model PW w) A (pyIter (.ref l)) (fun it s₂ => codeAny (model PW w) A (.forLoop target it body orelse env) (fun r s' => match r with | .ok f => Q f s' | .error e => cameBackBy (model PW w) A env (fun _ _ => False) e s') s₂) (fun _ _ => False) s := by
  refine wpAny_pyIter_tuple (hl.at fun o e => F.keep _ o e) ?_
  have hlt : ∀ q ∈ nw₀, q.1 < s.heap.objs.size := fun q hq => Heap.lt_size (N q hq).1
  exact loopT (s := { s with heap := s.heap.push { cls := .type "tuple_iterator", data := .fields #[.ref l, .int 0 0] } }) Inv hh (F.push _) (N.push F _) (fun q hq => Nat.ne_of_lt (hlt q hq)) ⟨rfl, rfl⟩ h0 hl
    (fun i v m nw h tk o => turn s.heap.objs.size i v m nw h tk o hlt) done
theorem next_tup_item {A : Around} {E : Value → Shared → Prop} {s : Shared} {it t : Addr} {i : Nat} {items : Array Value} {x : Value} {Q : Value → Shared → Prop} (hit : s.heap.IsTupleIter it t i) (ht : s.heap.IsTuple t items) (hx : items[i]? = some x)
    (hQ : ∀ h', h'.IsTupleIter it t (i + 1) → Heap.SameBut it s.heap h' → Q x { s with heap := h' }) : wpAny (model PW w) A (Builtin.SmallTypes.nextOf (.ref it)) Q E s := by
  obtain ⟨o, ho, hc, hd⟩ := id hit
  obtain ⟨ol, hol, _, nl, hdl⟩ := ht
  unfold Builtin.SmallTypes.nextOf
  refine wpAny_bind (wpAny_callSpecial?_slot (name := Str.ofString "__next__") hit.typeIs PySem.F.slot_tuple_iterator_next
    (wpAny_call_entry PySem.F.slot_tuple_iterator_next hit.typeIs PySem.F.entry_tuple_iterator_next ?_ (PySem.F.args_tuple_iterator_next_1 _)))
  show wpAny _ _ (field (.ref it) 0 >>= _) _ _ s
  refine wpAny_bind (wpAny_field ho hd (x := .ref t) rfl ?_)
  show wpAny _ _ (if (Value.ref t == Value.none) = true then _ else _) _ _ s
  rw [if_neg (show ¬ ((Value.ref t == Value.none) = true) from Bool.false_ne_true)]
  show wpAny _ _ (field (.ref it) 1 >>= _) _ _ s
  refine wpAny_bind (wpAny_field ho hd (x := .int i 0) rfl ?_)
  show wpAny _ _ (seqItems? (.ref t) >>= _) _ _ s
  refine wpAny_bind (wpAny_seqItems hol hdl ?_)
  simp only [Int.toNat_natCast, hx]
  refine wpAny_bind (wpAny_setField ho hd (by simp) (wpAny_pure ⟨x, rfl, wpAny_pure (hQ _ ?_ (Heap.SameBut.update ..))⟩))
  exact ⟨_, Heap.get?_update_self _ ho (Obj.isFreed_of_fields (Obj.data_mapFields hd _)), (Obj.cls_mapFields ..).trans hc, by
    rw [Obj.data_mapFields hd]; simp [rawInt]⟩
theorem next_tup_end {A : Around} {E : Value → Shared → Prop} {s : Shared} {it t : Addr} {i : Nat} {items : Array Value} {Q : Value → Shared → Prop} (hh : A.handled = none) (hit : s.heap.IsTupleIter it t i) (ht : s.heap.IsTuple t items) (hx : items[i]? = none)
    (hE : ∀ h' e, Heap.ExtBut it s.heap h' → (∃ o, h'.get? e = some o ∧ o.cls = .type "StopIteration") → E (.ref e) { s with heap := h' }) : wpAny (model PW w) A (Builtin.SmallTypes.nextOf (.ref it)) Q E s := by
  obtain ⟨o, ho, hc, hd⟩ := id hit
  obtain ⟨ol, hol, _, nl, hdl⟩ := ht
  unfold Builtin.SmallTypes.nextOf
  refine wpAny_bind (wpAny_callSpecial?_slot (name := Str.ofString "__next__") hit.typeIs PySem.F.slot_tuple_iterator_next
    (wpAny_call_entry PySem.F.slot_tuple_iterator_next hit.typeIs PySem.F.entry_tuple_iterator_next ?_ (PySem.F.args_tuple_iterator_next_1 _)))
  show wpAny _ _ (field (.ref it) 0 >>= _) _ _ s
  refine wpAny_bind (wpAny_field ho hd (x := .ref t) rfl ?_)
  show wpAny _ _ (if (Value.ref t == Value.none) = true then _ else _) _ _ s
  rw [if_neg (show ¬ ((Value.ref t == Value.none) = true) from Bool.false_ne_true)]
  show wpAny _ _ (field (.ref it) 1 >>= _) _ _ s
  refine wpAny_bind (wpAny_field ho hd (x := .int i 0) rfl ?_)
  show wpAny _ _ (seqItems? (.ref t) >>= _) _ _ s
  refine wpAny_bind (wpAny_seqItems hol hdl ?_)
  simp only [Int.toNat_natCast, hx]
  refine wpAny_bind (wpAny_rule (wpAny_bind (wpAny_setField ho hd (by simp) ?_)))
  show wpAny _ _ (newExc (.type "StopIteration") [] >>= _) _ _ _
  refine wpAny_bind ?_
  simp only [newExc, newTuple]
  refine wpAny_bind (wpAny_newObj_type ?_ (by size_fits))
  refine wpAny_bind (m := firstArgMember _ _) (wpAny_of_eq (a := Value.none) (by first | rfl | (simp only [firstArgMember]; rfl)) ?_)
  refine wpAny_newObj_type ?_ (by size_fits)
  simp only [raiseNew]
  refine wpAny_bind (wpAny_handled ?_)
  first | rw [show A.in1.handled = none from hh] | rw [hh]
  refine wpAny_bind (wpAny_pure (wpAny_throw ?_))
  exact hE _ _ (((Heap.SameBut.update ..).extBut.push _).push _) ⟨_, Heap.get?_push_size _ rfl, rfl⟩
theorem draws_tup {A : Around} (hh : A.handled = none) (it l : Addr) (hne : l ≠ it) (items : Array Value) :
    Draws PW w A it [it, l] items.size (fun i v => items[i]? = some v) (fun i h => h.IsTupleIter it l i ∧ h.IsTuple l items) where
  live := fun _ _ st => let ⟨o, ho, _⟩ := st.1; ⟨o, ho⟩
  frame := fun _ _ _ st hk => ⟨st.1.at fun o e => hk it (by simp) o e, st.2.at fun o e => hk l (by simp) o e⟩
  item := fun i s Q E hi st hQ => by
    refine next_tup_item st.1 st.2 (x := items[i]) (by simp [hi]) fun h' hit' hs' => ?_
    exact hQ _ h' s.toks (by simp [hi]) ⟨hit', st.2.extBut hs'.extBut hne⟩ hs'
  done := fun s Q E st hE => next_tup_end hh st.1 st.2 (by simp) hE
end
end
section
section
variable {w : World} {p : Program} {loose : List Str} {mg mb : Str → Option Value}
noncomputable abbrev tiO (l : Addr) (i : Int) : Obj := { cls := .type "tuple_iterator", data := .fields #[.ref l, .int i 0] }
noncomputable abbrev enO (it : Addr) : Obj := { cls := .type "enumerate", data := .fields #[.none, .bool false, .ref it, rawInt 0, .none, .none] }
section
set_option hygiene false in
local macro_rules | `(tactic| x_close) => `(tactic| ((rename Mem _ _ _ _ => D9); exact hQ _ _ _ _ (up_of D9) (D9.nw _ (List.Mem.head _)) (D9.nw _ (List.Mem.tail _ (List.Mem.head _))) (Nat.ne_of_gt (List.rel_of_pairwise_cons D9.ord (List.Mem.head _)))))
theorem enum_c {n : Nat} {A : Around} {Q E : Value → Shared → Prop} {s : Shared} (KX : (KK w.params).In s.heap) (RA : Room n A)
    (hQ : ∀ e it h' tk', Up s.heap h' → (h'.get? e = some (enO it) ∧ s.heap.get? e = none) → (h'.get? it = some (tiO 87 0) ∧ s.heap.get? it = none) → e ≠ it → Q (.ref e) { s with heap := h', toks := tk' }) : wpAny (model PW w) A (call (.type "enumerate") [.ref 87]) Q E s := by
  refine weaken RA ?_
  (generalize PW = prog; x_run)
end
theorem ifmt_c {n : Nat} {A : Around} {Q E : Value → Shared → Prop} {s : Shared} {mode : Int} {t : Tok} (TW : Tops w p loose mg mb) (KX : (KK w.params).In s.heap) (RA : Room (n + 1) A)
    (hQ : ∀ h' tk' t', Up s.heap h' → Q (.int (Builtin.bitAnd mode 61440) t') { s with heap := h', toks := tk' }) : wpAny (model PW w) A (call (.ref 54) [.int mode t]) Q E s := by
  refine enterC (n := n) [] TW KX nil_hide RA (by k_is) (by k_is) (kp_binds KX (fun _ => rfl)) (locs rfl) ?_ (by decide)
  intro h₀ L h₁ tk₁ F N X T₀ hup hdn hlt R₁
  (try dsimp only)
  k_steps
  (rename Fr _ _ _ _ => F)
  exact hQ _ _ _ (fun b o e => F.keep _ _ (hup b o nil_ne e))
/-- this is the tuple of these pairs -/
noncomputable def PairsAt (h : Heap) (T : Addr) (its : Array Value) (rows : List (Int × Str)) : Prop :=
  h.IsTuple T its ∧ its.size = rows.length ∧ ∀ (j : Nat) kv, rows[j]? = some kv → ∃ r t1 t2, its[j]? = some (.ref r) ∧ IsTup h r #[.int kv.1 t1, .str kv.2 t2]
noncomputable def tabs : List (List (Int × Str)) := [[(40960, "l"), (49152, "s"), (32768, "-"), (24576, "b"), (16384, "d"), (8192, "c"), (4096, "p")], [(256, "r")], [(128, "w")], [(2112, "s"), (2048, "S"), (64, "x")], [(32, "r")], [(16, "w")], [(1032, "s"), (1024, "S"), (8, "x")], [(4, "r")], [(2, "w")], [(513, "t"), (512, "T"), (1, "x")]]
noncomputable def tabI : Array Value := #[.ref 62, .ref 64, .ref 66, .ref 70, .ref 72, .ref 74, .ref 78, .ref 80, .ref 82, .ref 86]
theorem tab_top {h : Heap} (X : (KK w.params).In h) : h.IsTuple 87 tabI := ⟨tupO tabI.toList, X 87 _ (by kernel_rfl), rfl, _, rfl⟩
noncomputable def isTupB (o : Obj) : Bool := match o.cls with | .type n => decide (n = "tuple") | _ => false
noncomputable def isPairB (o : Option Obj) (kv : Int × Str) : Bool := match o with
  | some o => isTupB o && (match o.data with
    | .seq its _ => (match its.toList with
      | [.int a _, .str b _] => decide (a = kv.1) && decide (b = kv.2)
      | _ => false)
    | _ => false)
  | none => false
noncomputable def isRefs : List Value → List Addr → Bool
  | [], [] => true
  | .ref a :: r, b :: q => decide (a = b) && isRefs r q
  | _, _ => false
noncomputable def isTabB (K : Frag) (T : Addr) (ps : List Addr) (rows : List (Int × Str)) : Bool := match K.lookup T with
  | some o => isTupB o && (match o.data with | .seq its _ => isRefs its.toList ps | _ => false) && (ps.length == rows.length) && (List.zip ps rows).all fun q => isPairB (K.lookup q.1) q.2
  | none => false
theorem isTup_b {o : Obj} (h : isTupB o = true) : o.cls = .type "tuple" := by
  unfold isTupB at h
  split at h
  · rename_i n e; rw [e, of_decide_eq_true h]
  · cases h
theorem isRefs_b : ∀ {vs : List Value} {ps : List Addr}, isRefs vs ps = true → vs = ps.map Value.ref
  | [], [], _ => rfl
  | .ref a :: r, b :: q, h => by
    simp only [isRefs, Bool.and_eq_true] at h
    rw [List.map_cons, of_decide_eq_true h.1, isRefs_b h.2]
  | [], _ :: _, h => by simp [isRefs] at h
  | v :: r, [], h => by simp [isRefs] at h
theorem isPair_b {h : Heap} {K : Frag} (X : K.In h) {r : Addr} {kv : Int × Str} (hb : isPairB (K.lookup r) kv = true) : ∃ t1 t2, IsTup h r #[.int kv.1 t1, .str kv.2 t2] := by
  unfold isPairB at hb
  split at hb
  · rename_i o e
    rw [Bool.and_eq_true] at hb
    obtain ⟨h1, h2⟩ := hb
    split at h2
    · rename_i its n e2
      split at h2
      · rename_i a ta b tb e3
        rw [Bool.and_eq_true] at h2
        refine ⟨ta, tb, o, X _ _ e, isTup_b h1, n, ?_⟩
        rw [e2, ← of_decide_eq_true h2.1, ← of_decide_eq_true h2.2]
        congr 1
        exact Array.ext' e3
      · cases h2
    · cases h2
  · cases hb
theorem isTab_b {h : Heap} {K : Frag} (X : K.In h) {T : Addr} {ps : List Addr} {rows : List (Int × Str)} (hb : isTabB K T ps rows = true) : PairsAt h T (ps.map Value.ref).toArray rows := by
  unfold isTabB at hb
  split at hb
  · rename_i o e
    simp only [Bool.and_eq_true] at hb
    obtain ⟨⟨⟨h1, h2⟩, h3⟩, h4⟩ := hb
    have h3 : ps.length = rows.length := by simpa using h3
    split at h2
    · rename_i its n e2
      refine ⟨⟨o, X _ _ e, isTup_b h1, n, ?_⟩, by simp [h3], ?_⟩
      · rw [e2, ← isRefs_b h2]
      · intro j kv hj
        have hjl : j < rows.length := (List.getElem?_eq_some_iff.mp hj).1
        have hz : (List.zip ps rows)[j]? = some (ps[j], kv) := by
          rw [List.getElem?_zip_eq_some]; exact ⟨by simp, hj⟩
        have := List.all_eq_true.mp h4 _ (List.mem_of_getElem? hz)
        obtain ⟨t1, t2, ht⟩ := isPair_b X this
        exact ⟨ps[j], t1, t2, by simp [h3 ▸ hjl], ht⟩
    · cases h2
  · cases hb
noncomputable def tabP : List (Addr × List Addr) := [(62, [55, 56, 57, 58, 59, 60, 61]), (64, [63]), (66, [65]), (70, [67, 68, 69]), (72, [71]), (74, [73]), (78, [75, 76, 77]), (80, [79]), (82, [81]), (86, [83, 84, 85])]
theorem tab_all (P : Params) : (List.zip tabP tabs).all (fun q => isTabB (KK P) q.1.1 q.1.2 q.2) = true := by kernel_rfl
theorem tab_at {h : Heap} (X : (KK w.params).In h) : ∀ (i : Nat) (v : Value), tabI[i]? = some v → ∃ T its rows, v = .ref T ∧ tabs[i]? = some rows ∧ PairsAt h T its rows := by
  intro i v hv
  have hi : i < 10 := (Array.getElem?_eq_some_iff.mp hv).1
  have h1 : ∀ i, i < 10 → ∃ q r, tabP[i]? = some q ∧ tabs[i]? = some r ∧ tabI[i]? = some (.ref q.1) := by
    intro i hi
    have : i = 0 ∨ i = 1 ∨ i = 2 ∨ i = 3 ∨ i = 4 ∨ i = 5 ∨ i = 6 ∨ i = 7 ∨ i = 8 ∨ i = 9 := by omega
    rcases this with rfl | rfl | rfl | rfl | rfl | rfl | rfl | rfl | rfl | rfl <;> exact ⟨_, _, rfl, rfl, rfl⟩
  obtain ⟨q, r, e1, e2, e3⟩ := h1 i hi
  rw [e3] at hv
  cases hv
  have hz : (List.zip tabP tabs)[i]? = some (q, r) := by rw [List.getElem?_zip_eq_some]; exact ⟨e1, e2⟩
  have := List.all_eq_true.mp (tab_all w.params) _ (List.mem_of_getElem? hz)
  exact ⟨q.1, _, r, rfl, e2, isTab_b X this⟩
/-- the two maps agree but at these names -/
noncomputable def Agree (ns : List Str) (m m₀ : Str → Option Value) : Prop := ∀ y, y ∉ ns → m y = m₀ y
noncomputable def but : List Str → (Str → Option Value) → (Str → Option Value) → Str → Option Value
  | [], _, m₀, y => m₀ y
  | n :: ns, m, m₀, y => if y = n then m y else but ns m m₀ y
theorem Agree.eq {m m₀ : Str → Option Value} : ∀ {ns : List Str}, Agree ns m m₀ → m = but ns m m₀
  | [], h => funext fun y => h y (by simp)
  | n :: ns, h => by
    funext y
    show m y = if y = n then m y else but ns m m₀ y
    by_cases e : y = n
    · rw [if_pos e]
    · rw [if_neg e]
      by_cases q : y ∈ ns
      · have : ∀ ns : List Str, y ∈ ns → m y = but ns m m₀ y := by
          intro ns
          induction ns with
          | nil => intro q; simp at q
          | cons a r ih =>
            intro q
            show m y = if y = a then m y else but r m m₀ y
            by_cases e : y = a
            · rw [if_pos e]
            · rw [if_neg e]; exact ih (by simpa [e] using q)
        exact this ns q
      · have : ∀ ns : List Str, y ∉ ns → but ns m m₀ y = m₀ y := by
          intro ns
          induction ns with
          | nil => intro _; rfl
          | cons a r ih =>
            intro q
            show (if y = a then m y else but r m m₀ y) = m₀ y
            rw [if_neg (fun e => q (by simp [e]))]
            exact ih fun h => q (by simp [h])
        rw [this ns q]; exact h y (by simp [e, q])
theorem Agree.rfl {ns : List Str} {m : Str → Option Value} : Agree ns m m := fun _ _ => Eq.refl _
theorem Agree.set {ns : List Str} {m m₀ : Str → Option Value} (h : Agree ns m m₀) {x : Str} (hx : x ∈ ns) {v : Option Value} : Agree ns (fun y => if y = x then v else m y) m₀ := by
  intro y hy
  show (if y = x then v else m y) = m₀ y
  rw [if_neg (fun e => by rw [e] at hy; exact hy hx)]
  exact h y hy
theorem Agree.trans {ns ns' : List Str} {m m₁ m₀ : Str → Option Value} (h : Agree ns' m m₁) (h' : Agree ns m₁ m₀) (hs : ∀ y ∈ ns', y ∈ ns) : Agree ns m m₀ := fun y hy => (h y fun q => hy (hs y q)).trans (h' y hy)
local macro_rules | `(tactic| k_all) => `(tactic| assumption)
noncomputable def pickF (i : Nat) (mode : Int) : Int × Str → Bool := fun r => if i = 0 then Builtin.bitAnd mode 61440 == r.1 else Builtin.bitAnd mode r.1 == r.1
noncomputable def pick (i : Nat) (mode : Int) (rows : List (Int × Str)) : Str := match rows.find? (pickF i mode) with
  | some r => r.2
  | none => if i = 0 then "?" else "-"
noncomputable def sgn (mode : Int) (i : Nat) : Str := pick i mode (tabs[i]?.getD [])
theorem sgn_none {mode : Int} {i : Nat} {rows : List (Int × Str)} (hr : tabs[i]? = some rows) (hn : ∀ (j : Nat) kv, j < rows.length → rows[j]? = some kv → pickF i mode kv = false) : sgn mode i = if i = 0 then ("?" : Str) else ("-" : Str) := by
  unfold sgn pick
  rw [hr, Option.getD_some]
  have : rows.find? (pickF i mode) = none := by
    rw [List.find?_eq_none]
    intro x hx
    obtain ⟨j, hj, rfl⟩ := List.getElem_of_mem hx
    rw [hn j _ hj (List.getElem?_eq_getElem hj)]; exact Bool.false_ne_true
  rw [this]
theorem sgn_some {mode : Int} {i j : Nat} {rows : List (Int × Str)} (hr : tabs[i]? = some rows) (hj : j < rows.length) (h : pickF i mode rows[j] = true) (hn : ∀ (j' : Nat) kv, j' < j → rows[j']? = some kv → pickF i mode kv = false) : sgn mode i = rows[j].2 := by
  unfold sgn pick
  rw [hr, Option.getD_some]
  have : rows.find? (pickF i mode) = some rows[j] := by
    rw [List.find?_eq_some_iff_getElem]
    exact ⟨h, j, hj, rfl, fun j' hj' => by rw [hn j' _ hj' (List.getElem?_eq_getElem (by omega))]; rfl⟩
  rw [this]
theorem Strs.sign {ys : List Value} {mode : Int} {i : Nat} {x : Str} {t : Tok} (h : Strs ys ((List.range i).map (sgn mode))) (e : sgn mode i = x) : Strs (ys ++ [.str x t]) ((List.range (i + 1)).map (sgn mode)) := by
  rw [List.range_succ, List.map_append, ← e]; exact h.snoc
theorem sgn_len (mode : Int) (i : Nat) : (sgn mode i).length = 1 := by
  have hall : ∀ rows ∈ tabs, ∀ r ∈ rows, r.2.length = 1 := by decide +kernel
  unfold sgn pick
  split
  · rename_i r hf
    have hm := List.mem_of_find?_eq_some hf
    cases hr : tabs[i]? with
    | none => rw [hr] at hm; simp at hm
    | some rows => rw [hr] at hm; exact hall rows (List.mem_of_getElem? hr) r hm
  · split <;> rfl
theorem ones_sum : ∀ (l : List Str), (∀ x ∈ l, x.length = 1) → (l.map (·.length)).sum = l.length
  | [], _ => rfl
  | a :: r, h => by
    rw [List.map_cons, List.sum_cons, h a (by simp), ones_sum r (fun x hx => h x (by simp [hx])), List.length_cons]; omega
theorem strsAre_of : ∀ {ys : List Value} {xs : List Str}, Strs ys xs → StrsAre ys xs
  | [], [], _ => .nil
  | [], _ :: _, h => by simp [Strs] at h
  | _ :: _, [], h => by simp [Strs] at h
  | v :: r, x :: q, h => by
    unfold Strs at h
    rw [List.map_cons, List.map_cons] at h
    obtain ⟨h1, h2⟩ := List.cons.inj h
    cases v with
    | str y t => cases h1; exact .cons _ _ (strsAre_of h2)
    | _ => cases h1
noncomputable def signs (mode : Int) : Str := Txt.join (Str.ofString "") ((List.range 10).map (sgn mode))
theorem append_own {A : Around} {E : Value → Shared → Prop} {s : Shared} {h₀ : Heap} {L D : Addr} {m : Str → Option Value} {pre own : List (Addr × Obj)} {its : Array Value} {n : Nat} {v : Value} {Q : Value → Shared → Prop}
    (F : Fr h₀ L s.heap m) (N : News h₀ L s.heap (pre ++ (own ++ [(D, lstO its n)]))) (hp : ∀ q ∈ pre, q.1 ≠ D) (ho : ∀ q ∈ own, q.1 ≠ D) (hsz : its.size ≤ 900)
    (h : ∀ h', Fr h₀ L h' m → News h₀ L h' (pre ++ (own ++ [(D, lstO (its.push v) (n + 1))])) → Q .none { s with heap := h' }) :
    wpAny (model PW w) A (call (.builtin "list.append") [.ref D, v]) Q E s := by
  have hm := N (D, lstO its n) (by simp)
  refine append_at (hsz := Nat.le_trans hsz (by decide)) hm.1 fun h' hs ho' => h h' (F.change hs hm.2.1 hm.2.2) ?_
  rw [← List.append_assoc] at N ⊢
  exact News.setIn N (fun p hp' => by rcases List.mem_append.mp hp' with q | q; exact hp p q; exact ho p q) (fun _ h => nomatch h) hs ho'
theorem kw6 : True := by
  (k_with "call builtin:list.append" => refine hold ?_)
  trivial
theorem filemode_c {A : Around} {Q E : Value → Shared → Prop} {s : Shared} {mode : Int} {t : Tok} (TW : Tops w p loose mg mb) (KX : (KK w.params).In s.heap) (RA : Room 2 A) 
    (hQ : ∀ h' tk' t', Up s.heap h' → Q (.str (signs mode) t') { s with heap := h', toks := tk' }) :
    wpAny (model PW w) A (call (.ref 94) [.int mode t]) Q E s := by
  refine enterC (n := 1) [] TW KX nil_hide RA (by k_is) (by k_is) (kp_binds KX (fun _ => rfl)) (locs rfl) ?_ (by decide)
  intro h₀ L h₁ tk₁ F N X T₀ hup hdn hlt R₁
  (try dsimp only)
  k_steps
  rename_i P hA lA hB F N
  refine enum_c (Frag.In.keeps X F.keep) R₁ ?_
  intro e it h₂ tk₂ up₂ he hi hei
  have hlp := Heap.lt_size (N _ (List.Mem.head _)).1
  have nn : ∀ a, (∃ hh : Heap, hh.get? a = none ∧ (∀ b o, h₀.get? b = some o → hh.get? b = some o)) → h₀.get? a = none := by
    rintro a ⟨hh, q1, q2⟩
    cases q : h₀.get? a with
    | none => rfl
    | some o => rw [q2 _ _ q] at q1; cases q1
  have e0 := nn e ⟨_, he.2, F.keep⟩
  have i0 := nn it ⟨_, hi.2, F.keep⟩
  have eL : e ≠ L := fun q => by obtain ⟨o, es, ep, e₁, r⟩ := F.ns; have := he.2; rw [q] at this; dsimp only at this; rw [e₁] at this; cases this
  have iL : it ≠ L := fun q => by obtain ⟨o, es, ep, e₁, r⟩ := F.ns; have := hi.2; rw [q] at this; dsimp only at this; rw [e₁] at this; cases this
  have eP := he.2
  have iP := hi.2
  have nP := (N _ (List.Mem.head _)).1
  have h87 := tab_top X
  have i87 : 87 ≠ it := fun q => by obtain ⟨o, e₁, r⟩ := h87; rw [q, i0] at e₁; cases e₁
  have e87 : e ≠ 87 := fun q => by obtain ⟨o, e₁, r⟩ := h87; rw [← q, e0] at e₁; cases e₁
  have L87 : L ≠ 87 := fun q => by obtain ⟨o, e₁, r⟩ := h87; exact absurd (Nat.lt_of_lt_of_le (Heap.lt_size e₁) F.above) (by rw [q]; exact Nat.lt_irrefl _)
  have F := F.keeps up₂
  have N := N.grown up₂
  refine wpAny_pyIter_enum he.1 ?_
  refine ⟨e, e :: [it, 87], [e, it], tabI.size, _, _, _, (fun i v0 v1 => ∃ t iv, v0 = .int iv t ∧ iv = (i : Int) ∧ tabI[i]? = some v1), _, _, (fun i m nw => ∃ ys e₁, nw = [(P, lstO ys.toArray e₁)] ∧ Strs ys ((List.range i).map (sgn mode)) ∧ Agree ["index", "table", "bit", "char"] m _), rfl, WalksT.enumerateD (draws_tup rfl it 87 i87 tabI) e hei (by simp [hei, e87]) (by simp), ?_, (by show L ∉ _; simp [Ne.symm eL, Ne.symm iL, L87]), ?_, ?_, ⟨⟨_, he.1⟩, ⟨_, hi.1, rfl, rfl⟩, h87.at fun o e => F.keep _ o e⟩, F, N, ⟨[], 0, rfl, rfl, Agree.rfl⟩, ?_, ?_⟩
  · rintro i vals ⟨t, x, hPx, rfl⟩
    exact ⟨_, _, rfl, t, _, rfl, rfl, hPx⟩
  · intro b hb
    rcases List.mem_cons.mp hb with rfl | hb
    · exact e0
    · rw [List.mem_singleton.mp hb]; exact i0
  · intro p hp hb
    rw [List.mem_singleton.mp hp] at hb
    have hb' : P = e ∨ P = it := by simpa using hb
    rcases hb' with q | q
    · rw [← q] at eP; dsimp only at eP nP; rw [nP] at eP; cases eP
    · rw [← q] at iP; dsimp only at iP nP; rw [nP] at iP; cases iP
  · rintro i v0 v1 m₁ news₁ s₁ own ⟨hh, tk, rfl⟩ hi10 ⟨t₁, iv, rfl, hiv, hv1⟩ ⟨ys, e₁, rfl, hys, hag⟩ hmap hown F N
    obtain ⟨T, its, rows, rfl, hrows, hpa⟩ := tab_at X i v1 hv1
    rw [hag.eq] at F
    simp only [but] at F
    replace F : Fr h₀ L hh _ := F
    replace N : News h₀ L hh _ := N
    have hsz : ys.toArray.size ≤ 900 := by
      have := congrArg List.length hys
      simp only [List.length_map, List.length_range] at this
      have h10 : i < 10 := hi10
      rw [List.size_toArray]; omega
    have hoP : ∀ q ∈ own, q.1 ≠ P := by
      intro q hq ee
      have hb' : q.1 = e ∨ q.1 = it ∨ q.1 = 87 := by simpa using hown q hq
      rw [ee] at hb'
      rcases hb' with q | q | q
      · rw [← q] at eP; dsimp only at eP nP; rw [nP] at eP; cases eP
      · rw [← q] at iP; dsimp only at iP nP; rw [nP] at iP; cases iP
      · have := (N (P, _) (List.mem_append_right _ (List.Mem.head _))).2.2
        obtain ⟨o, e₁, r⟩ := h87
        rw [← q, this] at e₁; cases e₁
    (try dsimp only)
    k_steps
    refine wpAny_For ?_
    k_steps
    refine iterT (its := its) (fun j m nw => nw = own ++ [(P, lstO ys.toArray e₁)] ∧ Agree ["bit", "char"] m _ ∧ ∀ (j' : Nat) kv, j' < j → rows[j']? = some kv → pickF i mode kv = false) R₁.handled F N ⟨rfl, Agree.rfl, fun _ _ h => absurd h (Nat.not_lt_zero _)⟩ hpa.1 ?_ ?_
    · rintro I j v m nw h tk₃ o hlI hv ⟨rfl, hag₂, hno⟩ F N hI
      have hj : j < rows.length := by
        have := (Array.getElem?_eq_some_iff.mp hv).1
        rw [hpa.2.1] at this; exact this
      obtain ⟨r, t1, t2, e1, e2⟩ := hpa.2.2 j rows[j] (List.getElem?_eq_getElem hj)
      rw [e1] at hv
      cases hv
      rw [hag₂.eq] at F
      simp only [but] at F
      replace F : Fr h₀ L h _ := F
      replace N : News h₀ L h _ := N
      obtain ⟨own', ho'⟩ : ∃ o', o' = (I, o) :: own := ⟨_, rfl⟩
      have hoP' : ∀ q ∈ own', q.1 ≠ P := by
        intro q hq
        rw [ho'] at hq
        rcases List.mem_cons.mp hq with rfl | hq
        · exact Ne.symm (hI _ (List.mem_append_right _ (List.Mem.head _)))
        · exact hoP q hq
      replace N : News h₀ L h (own' ++ [(P, lstO ys.toArray e₁)]) := by rw [ho']; exact N
      (try dsimp only)
      k_steps
      · (rename Fr _ _ _ _ => F)
        (rename News _ _ _ _ => N)
        refine ifmt_c (n := 0) TW (Frag.In.keeps X F.keep) R₁ ?_
        intro h₅ tk₅ t₅ up₅
        have F := F.keeps up₅
        have N := N.grown up₅
        (try dsimp only)
        k_steps
        · unfold Hold
          (rename Builtin.bitAnd _ _ = _ => hb)
          (rename Fr _ _ _ _ => F)
          (rename News _ _ _ _ => N)
          refine append_own (pre := []) F N (fun _ h => nomatch h) hoP' hsz ?_
          intro h₆ F N
          simp only [List.nil_append, List.push_toArray] at N
          replace N := newsTail (by rw [ho'] at N; exact N)
          (try dsimp only)
          k_steps
          refine (show wpAny (model PW w) _ (execs [] _) _ _ _ from ?_)
          k_steps
          · exact hys.sign (sgn_some hrows hj (by unfold pickF; subst hiv; rw [if_pos (by omega)]; exact beq_iff_eq.mpr hb) hno)
          · (intro y hy; simp only [List.mem_cons, List.not_mem_nil, or_false, not_or] at hy; obtain ⟨a1, a2, a3, a4⟩ := hy; simp only [if_neg a1, if_neg a2, if_neg a3, if_neg a4])
        · (rename Builtin.bitAnd _ _ ≠ _ => hb)
          have hpf : pickF i mode rows[j] = false := by
            unfold pickF; subst hiv; rw [if_pos (by omega)]; exact beq_false_of_ne hb
          refine ⟨_, _, _, _, rfl, F, (by rw [ho'] at N; exact N), hI, rfl, (Agree.set (Agree.set ?_ (by simp)) (by simp)), ?_⟩
          · exact fun y hy => by
              simp only [List.mem_cons, List.not_mem_nil, or_false, not_or] at hy
              simp only [if_neg hy.1, if_neg hy.2]
          · intro j' kv hj' hkv
            rcases Nat.lt_succ_iff_lt_or_eq.mp hj' with hj' | rfl
            · exact hno j' kv hj' hkv
            · rw [List.getElem?_eq_getElem hj] at hkv; cases hkv; exact hpf
      · unfold Hold
        (rename Builtin.bitAnd _ _ = _ => hb)
        (rename Fr _ _ _ _ => F)
        (rename News _ _ _ _ => N)
        refine append_own (pre := []) F N (fun _ h => nomatch h) hoP' hsz ?_
        intro h₆ F N
        simp only [List.nil_append, List.push_toArray] at N
        replace N := newsTail (by rw [ho'] at N; exact N)
        (try dsimp only)
        k_steps
        refine (show wpAny (model PW w) _ (execs [] _) _ _ _ from ?_)
        k_steps
        · exact hys.sign (sgn_some hrows hj (by unfold pickF; subst hiv; rw [if_neg (by omega)]; exact beq_iff_eq.mpr hb) hno)
        · (intro y hy; simp only [List.mem_cons, List.not_mem_nil, or_false, not_or] at hy; obtain ⟨a1, a2, a3, a4⟩ := hy; simp only [if_neg a1, if_neg a2, if_neg a3, if_neg a4])
      · (rename Builtin.bitAnd _ _ ≠ _ => hb)
        (rename Fr _ _ _ _ => F)
        (rename News _ _ _ _ => N)
        have hpf : pickF i mode rows[j] = false := by
          unfold pickF; subst hiv; rw [if_neg (by omega)]; exact beq_false_of_ne hb
        refine ⟨_, _, _, _, rfl, F, (by rw [ho'] at N; exact N), hI, rfl, (Agree.set (Agree.set ?_ (by simp)) (by simp)), ?_⟩
        · exact fun y hy => by
            simp only [List.mem_cons, List.not_mem_nil, or_false, not_or] at hy
            simp only [if_neg hy.1, if_neg hy.2]
        · intro j' kv hj' hkv
          rcases Nat.lt_succ_iff_lt_or_eq.mp hj' with hj' | rfl
          · exact hno j' kv hj' hkv
          · rw [List.getElem?_eq_getElem hj] at hkv; cases hkv; exact hpf
    · rintro m nw h tk₃ ⟨rfl, hag₂, hno⟩ F N
      rw [hag₂.eq] at F
      simp only [but] at F
      replace F : Fr h₀ L h _ := F
      replace N : News h₀ L h _ := N
      (try dsimp only)
      k_steps
      all_goals unfold Hold
      all_goals refine append_own (pre := []) F N (fun _ h => nomatch h) hoP hsz ?_
      all_goals intro h₄ F N
      all_goals simp only [List.nil_append, List.push_toArray] at N
      all_goals (try dsimp only)
      all_goals k_steps
      · exact hys.sign ((sgn_none hrows (by rw [← hpa.2.1]; exact hno)).trans (by subst hiv; rw [if_pos (by omega)]))
      · (intro y hy; simp only [List.mem_cons, List.not_mem_nil, or_false, not_or] at hy; obtain ⟨a1, a2, a3, a4⟩ := hy; simp only [if_neg a1, if_neg a2, if_neg a3, if_neg a4])
      · exact hys.sign ((sgn_none hrows (by rw [← hpa.2.1]; exact hno)).trans (by subst hiv; rw [if_neg (by omega)]))
      · (intro y hy; simp only [List.mem_cons, List.not_mem_nil, or_false, not_or] at hy; obtain ⟨a1, a2, a3, a4⟩ := hy; simp only [if_neg a1, if_neg a2, if_neg a3, if_neg a4])
  · rintro h₇ tk₇ m₇ nw₇ F N hmap ⟨ys, e₁, rfl, hys, hag⟩
    rw [hag.eq] at F
    simp only [but] at F
    replace F : Fr h₀ L h₇ _ := F
    replace N : News h₀ L h₇ _ := N
    (try dsimp only)
    k_steps
    refine join_listC (News.isList N (List.Mem.head _)) (ys := (List.range 10).map (sgn mode)) (strsAre_of hys) (by decide) ?_ ?_
    · rw [ones_sum _ (fun x hx => by obtain ⟨i, _, rfl⟩ := List.mem_map.mp hx; exact sgn_len mode i)]
      simp
    · intro t' k
      exact hQ _ _ _ (fun b o e => F.keep _ _ (hup b o nil_ne e))
end
theorem kw7 : True := by
  k_with_none
  trivial
end
section
section
variable {w : World} {p : Program} {loose : List Str} {mg mb : Str → Option Value}
theorem Agree.eq1 {m m₀ : Str → Option Value} {x : Str} {v : Option Value} {ns : List Str} (h : Agree (x :: ns) m m₀) (hv : m x = v) : m = fun y => if y = x then v else but ns m m₀ y := by
  rw [← hv]
  refine h.eq.trans (funext fun y => ?_)
  show (if y = x then m y else _) = _
  by_cases e : y = x
  · rw [if_pos e, if_pos e, e]
  · rw [if_neg e, if_neg e]
noncomputable def menu (a b : Str) (k : Int) : Str := if k = 0 then a else b
noncomputable def grp (mode sh sp : Int) (sm gt : Str) (x : Str) : Str := ((x ++ menu "-" "r" (Int.fdiv (Int.fmod (Int.fdiv mode sh) 8) 4)) ++ menu "-" "w" (Int.fmod (Int.fdiv (Int.fmod (Int.fdiv mode sh) 8) 2) 2)) ++ menu (if Int.fmod (Int.fdiv mode sp) 2 = 1 then gt else "-") (if Int.fmod (Int.fdiv mode sp) 2 = 1 then sm else "x") (Int.fmod (Int.fmod (Int.fdiv mode sh) 8) 2)
noncomputable def sg (mode : Int) : Nat → Str
  | 0 => "-"
  | 1 => grp mode 64 2048 "s" "S" "-"
  | 2 => grp mode 8 1024 "s" "S" (grp mode 64 2048 "s" "S" "-")
  | _ => grp mode 1 512 "t" "T" (grp mode 8 1024 "s" "S" (grp mode 64 2048 "s" "S" "-"))
noncomputable def lv : List Str := ["shift", "special", "small", "great", "octal", "mark"]
theorem sub_menu {A : Around} {E : Value → Shared → Prop} {s : Shared} {value slice : PySem.Expr} {l : Addr} {a b : Str} {ta tb u : Tok} {k : Int} {Q : Value → Shared → Prop} (hl : s.heap.IsList l #[.str a ta, .str b tb]) (hk : k = 0 ∨ k = 1) (h : ∀ t', Q (.str (menu a b k) t') s)
    (hs : subscripted slice false (.ref l) (.int k u) = operate [.ref l, .int k u] (getItem (.ref l) (.int k u)) := by with_unfolding_all rfl) : wpAny (model PW w) A (subscriptTail value slice (.ref l) (.int k u)) Q E s := by
  rcases hk with rfl | rfl
  · exact tail_any hl.typeIs PySem.F.slot_list_getitem.lookup (wpAny_getItem_list hl (by decide) (by decide) rfl (h ta)) hs
  · exact tail_any hl.typeIs PySem.F.slot_list_getitem.lookup (wpAny_getItem_list hl (by decide) (by decide) rfl (h tb)) hs
theorem sub_menuT {A : Around} {E : Value → Shared → Prop} {s : Shared} {value slice : PySem.Expr} {l : Addr} {a b : Str} {ta tb u : Tok} {k : Int} {Q : Value → Shared → Prop} (hl : IsTup s.heap l #[.str a ta, .str b tb]) (hk : k = 0 ∨ k = 1) (h : ∀ t', Q (.str (menu a b k) t') s)
    (hs : subscripted slice false (.ref l) (.int k u) = operate [.ref l, .int k u] (getItem (.ref l) (.int k u)) := by with_unfolding_all rfl) : wpAny (model PW w) A (subscriptTail value slice (.ref l) (.int k u)) Q E s := by
  rcases hk with rfl | rfl
  · exact tail_any hl.typeIs PySem.F.slot_tuple_getitem.lookup (PyProof.Rows.getItem_tuple (j := 0) hl (by decide) (by decide) rfl rfl (h ta)) hs
  · exact tail_any hl.typeIs PySem.F.slot_tuple_getitem.lookup (PyProof.Rows.getItem_tuple (j := 1) hl (by decide) (by decide) rfl rfl (h tb)) hs
theorem grp_yes {mode sh sp : Int} {sm gt x : Str} (h : Int.fmod (Int.fdiv mode sp) 2 = 1) : grp mode sh sp sm gt x = ((x ++ menu "-" "r" (Int.fdiv (Int.fmod (Int.fdiv mode sh) 8) 4)) ++ menu "-" "w" (Int.fmod (Int.fdiv (Int.fmod (Int.fdiv mode sh) 8) 2) 2)) ++ menu gt sm (Int.fmod (Int.fmod (Int.fdiv mode sh) 8) 2) := by
  unfold grp; rw [if_pos h, if_pos h]
theorem grp_no {mode sh sp : Int} {sm gt x : Str} (h : Int.fmod (Int.fdiv mode sp) 2 ≠ 1) : grp mode sh sp sm gt x = ((x ++ menu "-" "r" (Int.fdiv (Int.fmod (Int.fdiv mode sh) 8) 4)) ++ menu "-" "w" (Int.fmod (Int.fdiv (Int.fmod (Int.fdiv mode sh) 8) 2) 2)) ++ menu "-" "x" (Int.fmod (Int.fmod (Int.fdiv mode sh) 8) 2) := by
  unfold grp; rw [if_neg h, if_neg h]
theorem len_app {x y : Str} {a b : Nat} (hx : x.length ≤ a) (hy : y.length ≤ b) : (x ++ y).length ≤ a + b := by
  have : (x ++ y).length = x.length + y.length := by show (x.cps ++ y.cps).size = _; rw [Array.size_append]; rfl
  omega
theorem len_menu {a b : Str} {k : Int} {n : Nat} (ha : a.length ≤ n) (hb : b.length ≤ n) : (menu a b k).length ≤ n := by
  unfold menu; split <;> assumption
theorem len_grp {mode sh sp : Int} {sm gt x : Str} {n : Nat} (hx : x.length ≤ n) (h1 : sm.length ≤ 1) (h2 : gt.length ≤ 1) : (grp mode sh sp sm gt x).length ≤ n + 1 + 1 + 1 := by
  unfold grp
  refine len_app (len_app (len_app hx (len_menu (by decide) (by decide))) (len_menu (by decide) (by decide))) (len_menu ?_ ?_)
  · split; exact h2; decide
  · split; exact h1; decide
theorem len_sg (mode : Int) : ∀ i, (sg mode i).length ≤ 10
  | 0 => by show (Str.ofString "-").length ≤ 10; decide
  | 1 => Nat.le_trans (len_grp (n := 1) (by decide) (by decide) (by decide)) (by decide)
  | 2 => Nat.le_trans (len_grp (n := 4) (len_grp (n := 1) (by decide) (by decide) (by decide)) (by decide) (by decide)) (by decide)
  | _ + 3 => Nat.le_trans (len_grp (n := 7) (len_grp (n := 4) (len_grp (n := 1) (by decide) (by decide) (by decide)) (by decide) (by decide)) (by decide) (by decide)) (by decide)
theorem add_go {A : Around} {E : Value → Shared → Prop} {s : Shared} {x y : Str} {t u : Tok} {Q : Value → Shared → Prop} (n : Nat) (hn : n ≤ 100) (hx : x.length ≤ n) (hy : y.length ≤ 1) (h : ∀ t' tk, (x ++ y).length ≤ n + 1 → Q (.str (x ++ y) t') { s with toks := tk }) : wpAny (model PW w) A (binaryOp .Add (.str x t) (.str y u)) Q E s :=
  PyProof.Rows.add_str (fun t' tk => h t' tk (len_app hx hy)) (hsz := Nat.le_trans (Nat.add_le_add (Nat.le_trans hx hn) hy) (by decide))
theorem bit_a (x : Int) : Int.fdiv (Int.fmod x 8) 4 = 0 ∨ Int.fdiv (Int.fmod x 8) 4 = 1 := by
  rw [Int.fmod_eq_emod_of_nonneg _ (by decide), Int.fdiv_eq_ediv_of_nonneg _ (by decide)]; omega
theorem bit_b (x : Int) : Int.fmod x 2 = 0 ∨ Int.fmod x 2 = 1 := by
  rw [Int.fmod_eq_emod_of_nonneg _ (by decide)]; omega
theorem kw8 : True := by
  (k_with "exec For Tuple List cons nil" => refine hold ?_)
  trivial
theorem kw9 : True := by
  (k_with "binaryOp Add str str" => refine hold ?_)
  trivial
theorem kw10 : True := by
  (k_with "subscriptTail" => refine hold ?_)
  trivial
theorem signs_c {A : Around} {Q E : Value → Shared → Prop} {s : Shared} {mode : Int} {t : Tok} (TW : Tops w p loose mg mb) (KX : (KK w.params).In s.heap) (RA : Room 1 A)
    (hQ : ∀ h' tk' t', Up s.heap h' → Q (.str (sg mode 3) t') { s with heap := h', toks := tk' }) :
    wpAny (model PW w) A (call (.ref 263) [.int mode t]) Q E s := by
  refine enterC (n := 0) [] TW KX nil_hide RA (by k_is) (by k_is) (kp_binds KX (fun _ => rfl)) (locs rfl) ?_ (by decide)
  intro h₀ L h₁ tk₁ F N X T₀ hup hdn hlt R₁
  (try dsimp only)
  k_steps
  unfold Hold
  refine wpAny_For ?_
  k_steps
  rename_i hA T1 hB l1 T2 hC l2 T3 hD l3 D hE F N l4
  refine iterN (its := #[.ref T1, .ref T2, .ref T3]) (fun i m nw => nw = _ ∧ Agree ("signs" :: lv) m _ ∧ ∃ tk, m "signs" = some (.str (sg mode i) tk)) R₁.handled F N ⟨rfl, Agree.rfl, _, if_pos rfl⟩ ?_ ?_ ?_
  · rintro i m nw h ⟨rfl, _⟩ _ N
    exact News.isList N (List.Mem.head _)
  · rintro I i v m nw h tk o hlI hv ⟨hnw, hag, tks, hsg⟩ hio F N hI
    rw [hag.eq1 hsg] at F
    simp only [lv, but] at F
    obtain ⟨sh, sp, sm, gt, T, u1, u2, u3, u4, rfl, hT, hgrp, hsm, hgt, hsh, hsp, hsh0, hsh1, hsp0, hsp1⟩ : ∃ (sh sp : Int) (sm gt : Str) (T : Addr) (u1 u2 u3 u4 : Tok), v = .ref T ∧ (T, tupO [.int sh u1, .int sp u2, .str sm u3, .str gt u4]) ∈ nw ∧ sg mode (i + 1) = grp mode sh sp sm gt (sg mode i) ∧ sm.length ≤ 1 ∧ gt.length ≤ 1 ∧ sh ≠ 0 ∧ sp ≠ 0 ∧ 0 < sh ∧ sh ≤ 2048 ∧ 0 < sp ∧ sp ≤ 2048 := by
      subst hnw
      rcases i with _ | _ | _ | i
      · exact ⟨64, 2048, Str.ofString "s", Str.ofString "S", T1, _, _, _, _, by simpa using hv.symm, (List.Mem.tail _ (List.Mem.tail _ (List.Mem.tail _ (List.Mem.head _)))), rfl, by decide, by decide, by decide, by decide, by decide, by decide, by decide, by decide⟩
      · exact ⟨8, 1024, Str.ofString "s", Str.ofString "S", T2, _, _, _, _, by simpa using hv.symm, (List.Mem.tail _ (List.Mem.tail _ (List.Mem.head _))), rfl, by decide, by decide, by decide, by decide, by decide, by decide, by decide, by decide⟩
      · exact ⟨1, 512, Str.ofString "t", Str.ofString "T", T3, _, _, _, _, by simpa using hv.symm, (List.Mem.tail _ (List.Mem.head _)), rfl, by decide, by decide, by decide, by decide, by decide, by decide, by decide, by decide⟩
      · simp at hv
    have N : News h₀ L h ((T, tupO [.int sh u1, .int sp u2, .str sm u3, .str gt u4]) :: (I, o) :: nw) := fun p hp => by
      rcases List.mem_cons.mp hp with rfl | hp
      · exact N _ (List.mem_cons_of_mem _ hT)
      · exact N p hp
    replace F : Fr h₀ L h _ := F
    replace N : News h₀ L h _ := N
    refine wpAny_gen2 fun QS ES hQS hES => ?_
    (try dsimp only)
    k_steps
    all_goals unfold Hold
    all_goals (rename Fr _ _ _ _ => F)
    all_goals (rename News _ _ _ _ => N)
    all_goals refine sub_menu (News.isList N (List.Mem.head _)) (bit_a _) ?_
    all_goals intro t₅
    all_goals (try dsimp only)
    all_goals k_steps
    all_goals unfold Hold
    all_goals refine add_go 10 (by decide) (len_sg _ _) (len_menu (by decide) (by decide)) ?_
    all_goals intro t₆ tk₆ le₆
    all_goals (try dsimp only)
    all_goals k_steps
    all_goals unfold Hold
    all_goals (rename Fr _ _ _ _ => F)
    all_goals (rename News _ _ _ _ => N)
    all_goals refine sub_menu (News.isList N (List.Mem.head _)) (bit_b _) ?_
    all_goals intro t₇
    all_goals (try dsimp only)
    all_goals k_steps
    all_goals unfold Hold
    all_goals refine add_go 11 (by decide) le₆ (len_menu (by decide) (by decide)) ?_
    all_goals intro t₈ tk₈ le₈
    all_goals (try dsimp only)
    all_goals k_steps
    all_goals unfold Hold
    all_goals refine sub_menuT (News.isTup N (List.Mem.tail _ (List.Mem.tail _ (List.Mem.head _)))) (bit_b _) ?_
    all_goals intro t₉
    all_goals (try dsimp only)
    all_goals k_steps
    all_goals unfold Hold
    all_goals refine add_go 12 (by decide) le₈ (len_menu (by first | assumption | decide) (by first | assumption | decide)) ?_
    all_goals intro t₁ tk₁₁ le₉
    all_goals (try dsimp only)
    all_goals k_steps
    all_goals (rename Fr _ _ _ _ => F)
    all_goals (rename News _ _ _ _ => N)
    · (rename _ = (1 : Int) => hb)
      subst hQS hES
      refine ⟨_, _, _, _, rfl, F, newsTail (newsTail (newsTail (newsTail N))), hI, hnw, ?_, t₁, ?_⟩
      · (intro y hy; simp only [lv, List.mem_cons, List.not_mem_nil, or_false, not_or] at hy; obtain ⟨a1, a2, a3, a4, a5, a6, a7⟩ := hy; simp only [if_neg a1, if_neg a2, if_neg a3, if_neg a4, if_neg a5, if_neg a6, if_neg a7])
      · show (if _ = _ then _ else _) = _
        rw [if_pos rfl, hgrp]
        exact congrArg (fun x => some (Value.str x t₁)) (grp_yes hb).symm
    · (rename _ ≠ (1 : Int) => hb)
      subst hQS hES
      refine ⟨_, _, _, _, rfl, F, newsTail (newsTail (newsTail (newsTail N))), hI, hnw, ?_, t₁, ?_⟩
      · (intro y hy; simp only [lv, List.mem_cons, List.not_mem_nil, or_false, not_or] at hy; obtain ⟨a1, a2, a3, a4, a5, a6, a7⟩ := hy; simp only [if_neg a1, if_neg a2, if_neg a3, if_neg a4, if_neg a5, if_neg a6, if_neg a7])
      · show (if _ = _ then _ else _) = _
        rw [if_pos rfl, hgrp]
        exact congrArg (fun x => some (Value.str x t₁)) (grp_no hb).symm
  · rintro m nw h tk ⟨rfl, hag, tks, hsg⟩ F N
    rw [hag.eq1 hsg] at F
    simp only [lv, but] at F
    replace F : Fr h₀ L h _ := F
    replace N : News h₀ L h _ := N
    (try dsimp only)
    k_steps
    exact hQ _ _ _ (fun b o e => F.keep _ _ (hup b o nil_ne e))
end
theorem kw11 : True := by
  k_with_none
  trivial
end
section
noncomputable def hasB (m b : Int) : Bool := Builtin.bitAnd m b == b
noncomputable def oct (m sh : Int) : Int := Int.fmod (Int.fdiv m sh) 8
noncomputable def spc (m sp : Int) : Int := Int.fmod (Int.fdiv m sp) 2
noncomputable def chkG (m sh sp : Int) : Bool :=
  (hasB m (4 * sh) == (Int.fdiv (oct m sh) 4 == 1)) && (hasB m (2 * sh) == (Int.fmod (Int.fdiv (oct m sh) 2) 2 == 1)) && (hasB m (sh + sp) == ((spc m sp == 1) && (Int.fmod (oct m sh) 2 == 1))) && (hasB m sp == (spc m sp == 1)) && (hasB m sh == (Int.fmod (oct m sh) 2 == 1))
noncomputable def bitN (n k : Nat) : Bool := decide (n / 2 ^ k % 2 = 1)
theorem and_bit (n k : Nat) : n &&& 2 ^ k = (bitN n k).toNat * 2 ^ k := by
  have e : bitN n k = n.testBit k := (Nat.testBit_eq_decide_div_mod_eq).symm
  rw [e]
  apply Nat.eq_of_testBit_eq
  intro i
  rw [Nat.testBit_and, Nat.testBit_two_pow]
  by_cases hk : k = i
  · subst hk
    cases h : n.testBit k with
    | true => simp [Nat.testBit_two_pow]
    | false => simp
  · cases h : n.testBit k with
    | true => simp [hk, Nat.testBit_two_pow]
    | false => simp [hk]
theorem bitAnd_nat (n b : Nat) : Builtin.bitAnd (n : Int) (b : Int) = ((n &&& b : Nat) : Int) := by
  unfold Builtin.bitAnd
  rw [decide_eq_true (Int.natCast_nonneg n), decide_eq_true (Int.natCast_nonneg b)]
  rfl
theorem has_bit (n k : Nat) : hasB (n : Int) ((2 ^ k : Nat) : Int) = bitN n k := by
  unfold hasB
  rw [bitAnd_nat, and_bit]
  have hp : 0 < 2 ^ k := Nat.two_pow_pos k
  cases bitN n k with
  | true => simp
  | false =>
    rw [Bool.toNat_false, Nat.zero_mul]
    exact beq_false_of_ne (fun e => by have := Int.ofNat.inj e; omega)
theorem has_two {n i j b : Nat} (hb : 2 ^ i ||| 2 ^ j = b) (h0 : b ≠ 0) (h1 : 2 ^ i ≠ b) (h2 : 2 ^ j ≠ b) : hasB (n : Int) (b : Int) = (bitN n j && bitN n i) := by
  unfold hasB
  rw [bitAnd_nat, ← hb, Nat.and_or_distrib_left, and_bit, and_bit]
  cases bitN n i <;> cases bitN n j <;> simp only [Bool.toNat_false, Bool.toNat_true, Nat.zero_mul, Nat.one_mul, Nat.or_zero, Nat.zero_or, hb, Bool.and_self, Bool.and_false, Bool.and_true]
  · exact beq_false_of_ne (fun e => h0 (Int.ofNat.inj e).symm)
  · exact beq_false_of_ne (fun e => h2 (Int.ofNat.inj e))
  · exact beq_false_of_ne (fun e => h1 (Int.ofNat.inj e))
  · exact beq_self_eq_true _
theorem bit_int {n k : Nat} {x : Int} (h : x = ((n / 2 ^ k % 2 : Nat) : Int)) : bitN n k = (x == 1) := by
  unfold bitN
  rw [h]
  rcases Nat.mod_two_eq_zero_or_one (n / 2 ^ k) with e | e <;> rw [e] <;> rfl
theorem chkG_of (n i k : Nat) (sh sp : Int) (hs : sh = ((2 ^ i : Nat) : Int)) (hp : sp = ((2 ^ k : Nat) : Int)) (hne : 2 ^ i + 2 ^ k = 2 ^ i ||| 2 ^ k)  : chkG (n : Int) sh sp = true := by
  have p1 : 0 < 2 ^ i := Nat.two_pow_pos i
  have p2 : 0 < 2 ^ k := Nat.two_pow_pos k
  have e2 : 2 ^ (i + 1) = 2 * 2 ^ i := by rw [Nat.pow_succ]; omega
  have e4 : 2 ^ (i + 2) = 4 * 2 ^ i := by rw [Nat.pow_succ, Nat.pow_succ]; omega
  have o : oct (n : Int) sh = ((n / 2 ^ i % 8 : Nat) : Int) := by
    unfold oct
    rw [hs, Int.fdiv_eq_ediv_of_nonneg _ (Int.natCast_nonneg _), Int.fmod_eq_emod_of_nonneg _ (by decide)]; rfl
  have hspc : spc (n : Int) sp = ((n / 2 ^ k % 2 : Nat) : Int) := by
    unfold spc
    rw [hp, Int.fdiv_eq_ediv_of_nonneg _ (Int.natCast_nonneg _), Int.fmod_eq_emod_of_nonneg _ (by decide)]; rfl
  have c4 : (4 : Int) * sh = ((2 ^ (i + 2) : Nat) : Int) := by rw [hs, e4]; omega
  have c2 : (2 : Int) * sh = ((2 ^ (i + 1) : Nat) : Int) := by rw [hs, e2]; omega
  have d1 : n / 2 ^ (i + 1) = n / 2 ^ i / 2 := by rw [e2, Nat.mul_comm, Nat.div_div_eq_div_mul]
  have d2 : n / 2 ^ (i + 2) = n / 2 ^ i / 4 := by rw [e4, Nat.mul_comm, Nat.div_div_eq_div_mul]
  have b4 : bitN n (i + 2) = (Int.fdiv (oct (n : Int) sh) 4 == 1) := bit_int (by rw [o, Int.fdiv_eq_ediv_of_nonneg _ (by decide), d2]; omega)
  have b2 : bitN n (i + 1) = (Int.fmod (Int.fdiv (oct (n : Int) sh) 2) 2 == 1) := bit_int (by rw [o, Int.fdiv_eq_ediv_of_nonneg _ (by decide), Int.fmod_eq_emod_of_nonneg _ (by decide), d1]; omega)
  have b1 : bitN n i = (Int.fmod (oct (n : Int) sh) 2 == 1) := bit_int (by rw [o, Int.fmod_eq_emod_of_nonneg _ (by decide)]; omega)
  have bs : bitN n k = (spc (n : Int) sp == 1) := bit_int hspc
  have cs : sh + sp = ((2 ^ i + 2 ^ k : Nat) : Int) := by rw [hs, hp]; omega
  unfold chkG
  rw [c4, c2, has_bit, has_bit, b4, b2, cs, has_two (i := i) (j := k) hne.symm (by omega) (by omega) (by omega), hp, has_bit, ← hp, hs, has_bit, ← hs, bs, b1]
  simp
theorem top_and {n : Nat} (h1 : 32768 ≤ n) (h2 : n < 36864) : Builtin.bitAnd (n : Int) 61440 = 32768 := by
  have e : (61440 : Int) = ((61440 : Nat) : Int) := rfl
  rw [e, bitAnd_nat]
  have : (61440 : Nat) = 2 ^ 12 ||| (2 ^ 13 ||| (2 ^ 14 ||| 2 ^ 15)) := by decide
  rw [this, Nat.and_or_distrib_left, Nat.and_or_distrib_left, Nat.and_or_distrib_left, and_bit, and_bit, and_bit, and_bit]
  have b12 : bitN n 12 = false := decide_eq_false (by omega)
  have b13 : bitN n 13 = false := decide_eq_false (by omega)
  have b14 : bitN n 14 = false := decide_eq_false (by omega)
  have b15 : bitN n 15 = true := decide_eq_true (by omega)
  rw [b12, b13, b14, b15]
  rfl
theorem sgn1 {m : Int} {i : Nat} {b : Int} {c : Str} (hi : i ≠ 0) (h : tabs[i]? = some [(b, c)]) : sgn m i = if hasB m b then c else "-" := by
  unfold sgn pick
  rw [h, Option.getD_some]
  have : pickF i m (b, c) = hasB m b := by unfold pickF; rw [if_neg hi]; rfl
  cases e : hasB m b <;> simp [List.find?, this, e, hi]
theorem sgn3 {m : Int} {i : Nat} {b1 b2 b3 : Int} {c1 c2 c3 : Str} (hi : i ≠ 0) (h : tabs[i]? = some [(b1, c1), (b2, c2), (b3, c3)]) : sgn m i = if hasB m b1 then c1 else if hasB m b2 then c2 else if hasB m b3 then c3 else "-" := by
  unfold sgn pick
  rw [h, Option.getD_some]
  have h1 : ∀ b c, pickF i m (b, c) = hasB m b := by intro b c; unfold pickF; rw [if_neg hi]; rfl
  cases e1 : hasB m b1 <;> cases e2 : hasB m b2 <;> cases e3 : hasB m b3 <;> simp [List.find?, h1, e1, e2, e3, hi]
theorem menu_of {a b : Str} {k : Int} {x : Bool} (hk : k = 0 ∨ k = 1) (h : x = (k == 1)) : (if x then b else a) = menu a b k := by
  rcases hk with rfl | rfl <;> subst h <;> rfl
theorem menu3 {m sh sp : Int} {sm gt : Str} (hc : chkG m sh sp = true) : (if hasB m (sh + sp) then sm else if hasB m sp then gt else if hasB m sh then "x" else "-") = menu (if Int.fmod (Int.fdiv m sp) 2 = 1 then gt else "-") (if Int.fmod (Int.fdiv m sp) 2 = 1 then sm else "x") (Int.fmod (Int.fmod (Int.fdiv m sh) 8) 2) := by
  unfold chkG at hc
  simp only [Bool.and_eq_true, beq_iff_eq] at hc
  obtain ⟨⟨⟨⟨_, _⟩, h3⟩, h4⟩, h5⟩ := hc
  rw [h3, h4, h5]
  unfold spc oct
  rcases bit_b (Int.fdiv m sp) with e | e <;> rcases bit_b (Int.fmod (Int.fdiv m sh) 8) with e' | e' <;> rw [e, e'] <;> rfl
theorem app_empty (a b c : Str) : a ++ (b ++ c) = (a ++ b) ++ c := by
  show (⟨a.cps ++ (b.cps ++ c.cps)⟩ : Str) = ⟨(a.cps ++ b.cps) ++ c.cps⟩
  rw [Array.append_assoc]
theorem join10 (c0 c1 c2 c3 c4 c5 c6 c7 c8 c9 : Str) : Txt.join (Str.ofString "") [c0, c1, c2, c3, c4, c5, c6, c7, c8, c9] = ((((((((c0 ++ c1) ++ c2) ++ c3) ++ c4) ++ c5) ++ c6) ++ c7) ++ c8) ++ c9 := by
  have e : (Str.ofString "").cps = #[] := by decide
  show (⟨List.foldl (fun acc (p : Str) => acc ++ (Str.ofString "").cps ++ p.cps) c0.cps [c1, c2, c3, c4, c5, c6, c7, c8, c9]⟩ : Str) = ⟨((((((((c0.cps ++ c1.cps) ++ c2.cps) ++ c3.cps) ++ c4.cps) ++ c5.cps) ++ c6.cps) ++ c7.cps) ++ c8.cps) ++ c9.cps⟩
  simp only [List.foldl, e, Array.append_empty]
theorem signs_sg {m : Int} (h1 : 32768 ≤ m) (h2 : m < 36864) : signs m = sg m 3 := by
  obtain ⟨n, rfl⟩ : ∃ n : Nat, m = (n : Int) := ⟨m.toNat, by omega⟩
  have g1 : chkG (n : Int) 64 2048 = true := chkG_of n 6 11 64 2048 rfl rfl (by decide)
  have g2 : chkG (n : Int) 8 1024 = true := chkG_of n 3 10 8 1024 rfl rfl (by decide)
  have g3 : chkG (n : Int) 1 512 = true := chkG_of n 0 9 1 512 rfl rfl (by decide)
  have g0 : Builtin.bitAnd (n : Int) 61440 = 32768 := top_and (by omega) (by omega)
  generalize (n : Int) = m at *
  have r := fun {sh sp : Int} (g : chkG m sh sp = true) => show hasB m (4 * sh) = (Int.fdiv (oct m sh) 4 == 1) ∧ hasB m (2 * sh) = (Int.fmod (Int.fdiv (oct m sh) 2) 2 == 1) from by
    unfold chkG at g
    simp only [Bool.and_eq_true, beq_iff_eq] at g
    exact ⟨g.1.1.1.1, g.1.1.1.2⟩
  have s0 : sgn m 0 = "-" := by
    unfold sgn pick
    have e : Builtin.bitAnd m 61440 = 32768 := g0
    have p : ∀ r, pickF 0 m r = ((32768 : Int) == r.1) := by intro r; unfold pickF; rw [if_pos rfl, e]
    have : List.find? (pickF 0 m) (tabs[0]?.getD []) = some ((32768 : Int), (Str.ofString "-")) := by
      rw [show pickF 0 m = fun r => ((32768 : Int) == r.1) from funext p]; rfl
    rw [this]
  unfold signs
  show Txt.join (Str.ofString "") [sgn m 0, sgn m 1, sgn m 2, sgn m 3, sgn m 4, sgn m 5, sgn m 6, sgn m 7, sgn m 8, sgn m 9] = _
  rw [join10, s0, sgn1 (i := 1) (by decide) rfl, sgn1 (i := 2) (by decide) rfl, sgn3 (i := 3) (by decide) rfl, sgn1 (i := 4) (by decide) rfl, sgn1 (i := 5) (by decide) rfl, sgn3 (i := 6) (by decide) rfl, sgn1 (i := 7) (by decide) rfl, sgn1 (i := 8) (by decide) rfl, sgn3 (i := 9) (by decide) rfl]
  rw [menu_of (x := hasB m 256) (k := Int.fdiv (oct m 64) 4) (bit_a _) (r g1).1, menu_of (x := hasB m 128) (k := Int.fmod (Int.fdiv (oct m 64) 2) 2) (bit_b _) (r g1).2]
  rw [menu_of (x := hasB m 32) (k := Int.fdiv (oct m 8) 4) (bit_a _) (r g2).1, menu_of (x := hasB m 16) (k := Int.fmod (Int.fdiv (oct m 8) 2) 2) (bit_b _) (r g2).2]
  rw [menu_of (x := hasB m 4) (k := Int.fdiv (oct m 1) 4) (bit_a _) (r g3).1, menu_of (x := hasB m 2) (k := Int.fmod (Int.fdiv (oct m 1) 2) 2) (bit_b _) (r g3).2]
  erw [menu3 (sh := 64) (sp := 2048) g1, menu3 (sh := 8) (sp := 1024) g2, menu3 (sh := 1) (sp := 512) g3]
  rfl
end
section
noncomputable def okL (x : Str) : Prop := ∀ c ∈ x.cps.toList, okc c
theorem okL_app {x y : Str} (hx : okL x) (hy : okL y) : okL (x ++ y) := by
  intro c hc
  have hc : c ∈ (x.cps ++ y.cps).toList := hc
  rw [Array.toList_append, List.mem_append] at hc
  rcases hc with h | h
  · exact hx c h
  · exact hy c h
theorem okS_of {x : Str} (h : okL x) (hl : x.length ≤ 1000) : okS x := by
  refine ⟨hl, fun i hi => ?_⟩
  have e : x.cps.getD i 0 = x.cps[i] := by simp [hi]
  rw [e]
  exact h _ (by simp)
theorem sgn_ok (mode : Int) (i : Nat) : okL (sgn mode i) := by
  have hall : ∀ rows ∈ tabs, ∀ r ∈ rows, ∀ c ∈ r.2.cps.toList, okc c := by decide +kernel
  unfold sgn pick
  split
  · rename_i r hf
    have hm := List.mem_of_find?_eq_some hf
    cases hr : tabs[i]? with
    | none => rw [hr] at hm; simp at hm
    | some rows => rw [hr] at hm; exact hall rows (List.mem_of_getElem? hr) r hm
  · split
    · show ∀ c ∈ (Str.ofString "?").cps.toList, okc c; decide +kernel
    · show ∀ c ∈ (Str.ofString "-").cps.toList, okc c; decide +kernel
theorem signs_len (m : Int) : (signs m).length ≤ 10 := by
  unfold signs
  show (Txt.join (Str.ofString "") [sgn m 0, sgn m 1, sgn m 2, sgn m 3, sgn m 4, sgn m 5, sgn m 6, sgn m 7, sgn m 8, sgn m 9]).length ≤ _
  rw [join10]
  have h := fun i => Nat.le_of_eq (sgn_len m i)
  exact len_app (len_app (len_app (len_app (len_app (len_app (len_app (len_app (len_app (h 0) (h 1)) (h 2)) (h 3)) (h 4)) (h 5)) (h 6)) (h 7)) (h 8)) (h 9)
theorem signs_ok (m : Int) : okS (signs m) := by
  refine okS_of ?_ (Nat.le_trans (signs_len m) (by decide))
  unfold signs
  show okL (Txt.join (Str.ofString "") [sgn m 0, sgn m 1, sgn m 2, sgn m 3, sgn m 4, sgn m 5, sgn m 6, sgn m 7, sgn m 8, sgn m 9])
  rw [join10]
  have h := sgn_ok m
  exact okL_app (okL_app (okL_app (okL_app (okL_app (okL_app (okL_app (okL_app (okL_app (h 0) (h 1)) (h 2)) (h 3)) (h 4)) (h 5)) (h 6)) (h 7)) (h 8)) (h 9)
section
variable {w : World} {p : Program} {loose : List Str} {mg mb : Str → Option Value}
theorem items_c {A : Around} {Q E : Value → Shared → Prop} {s : Shared} {H d l : Addr} {hh : Int} {kt : Tok} {n' e : Nat} {its : Array Value} (TW : Tops w p loose mg mb) (KX : (KK w.params).In s.heap) (RA : Room 1 A)
    (D : HeadAt s.heap H d l hh kt n' e its) (hz : its.size ≤ 900)
    (hQ : ∀ D₁ e₁ h' tk', Up s.heap h' → s.heap.get? D₁ = none → h'.get? D₁ = some (lstO its e₁) → Q (.ref D₁) { s with heap := h', toks := tk' }) :
    wpAny (model PW w) A (call (.ref 202) [.ref H]) Q E s := by
  refine enterC (n := 0) (headNews H d l hh kt n' e its) TW KX D.hide RA (by k_is) (by k_is) (kp_binds KX (fun _ => rfl)) (locs rfl) ?_ (by decide)
  intro h₀ L h₁ tk₁ F N X T₀ hup hdn hlt R₁
  (try dsimp only)
  have hL : L < h₁.objs.size := F.ns.lt
  k_steps
  (rename Fr _ _ _ _ => F)
  (rename News _ _ _ _ => N)
  rw [slicePick_all] at N
  refine hQ _ _ _ _ (up_news F N hup D.hide fun p hp => List.mem_cons_of_mem _ hp) (new_of N (List.Mem.head _) hup ?_) (N _ (List.Mem.head _)).1
  intro p hp e
  have h1 : @LT.lt Nat _ p.1 L := hlt p hp
  have h2 : @LT.lt Nat _ L h₁.objs.size := hL
  have e : h₁.objs.size + 1 = p.1 := e
  omega
end
end
section
/-- the state of the acts: a tuple of a head and a list of answers -/
structure StAt (h : Heap) (S H d l An : Addr) (hh : Int) (kt : Tok) (n e : Nat) (its : Array Value) (rows : List (Str × Str)) (avs : List Value) (ea : Nat) (ans : List Str) : Prop where
  tup : h.get? S = some (tupO [.ref H, .ref An])
  head : HeadAt h H d l hh kt n e its
  rws : Rows h its rows
  lst : h.get? An = some (lstO avs.toArray ea)
  txt : Strs avs ans
  ne : An ≠ l
/-- an act, as plain data -/
structure Act where
  deed : Str
  nm : Str
  mode : Int
noncomputable def Act.ok (a : Act) : Prop := a.deed ∈ (["set", "add", "drop", "default"] : List Str) ∧ a.nm ∈ NM ∧ 32768 ≤ a.mode ∧ a.mode < 36864
noncomputable def stp (st : List (Str × Str) × List Str) (a : Act) : List (Str × Str) × List Str :=
  if a.deed = "set" then ((st.1.filter fun r => low r.1 != low a.nm) ++ [(a.nm, signs a.mode)], st.2)
  else if a.deed = "add" then (st.1 ++ [(a.nm, signs a.mode)], st.2)
  else if a.deed = "drop" then (st.1.filter fun r => low r.1 != low a.nm, st.2)
  else ((dflt st.1 a.nm (signs a.mode)).1, st.2 ++ [(dflt st.1 a.nm (signs a.mode)).2])
section
variable {w : World} {p : Program} {loose : List Str} {mg mb : Str → Option Value}
theorem news_add {h₀ h h' : Heap} {L T : Addr} {m : Str → Option Value} {nw : List (Addr × Obj)} {o : Obj} (F : Fr h₀ L h m) (N : News h₀ L h' nw) (hT : h'.get? T = some o) (hn : h.get? T = none) : News h₀ L h' ((T, o) :: nw) := by
  intro p hp
  rcases List.mem_cons.mp hp with rfl | hp
  · refine ⟨hT, fun q => ?_, ?_⟩
    · obtain ⟨o, es, ep, e₁, r⟩ := F.ns
      dsimp only at q
      rw [← q, hn] at e₁; cases e₁
    · cases q : h₀.get? T with
      | none => rfl
      | some o => rw [F.keep _ _ q] at hn; cases hn
  · exact N p hp
theorem list_ne {h h' : Heap} {A l : Addr} {ys : Array Value} {rows : List (Str × Str)} {avs : List Value} {x : Str} {t : Tok} {e e' : Nat} (hR : Rows h ys rows) (hl : h'.get? l = some (lstO ys e)) (hA : h'.get? A = some (lstO (avs ++ [Value.str x t]).toArray e')) : A ≠ l := by
  rintro rfl
  rw [hl] at hA
  have e1 : ys = (avs ++ [Value.str x t]).toArray := by
    have := congrArg Obj.data (Option.some.inj hA)
    exact (Data.seq.inj this).1
  have hsz : avs.length < rows.length := by rw [← hR.1, e1]; simp
  obtain ⟨r, t1, t2, e2, _⟩ := hR.2 avs.length rows[avs.length] (List.getElem?_eq_getElem hsz)
  rw [e1] at e2
  simp at e2
theorem done_c {A : Around} {Q E : Value → Shared → Prop} {s : Shared} {S T H d l An : Addr} {hh : Int} {kt t1 t2 t3 : Tok} {n' e ea : Nat} {its : Array Value} {rows : List (Str × Str)} {avs : List Value} {ans : List Str} {a : Act} (TW : Tops w p loose mg mb) (KX : (KK w.params).In s.heap) (RA : Room 4 A)
    (D : StAt s.heap S H d l An hh kt n' e its rows avs ea ans) (ha : a.ok) (hT : s.heap.get? T = some (tupO [.str a.deed t1, .str a.nm t2, .int a.mode t3])) (hk : ∀ kv ∈ rows, kv.1 ∈ NM) (hz : its.size ≤ 900) (hza : avs.length ≤ 900)
    (hQ : ∀ S' An' its' e' avs' ea' h' tk', UpBut l s.heap h' → StAt h' S' H d l An' hh kt n' e' its' (stp (rows, ans) a).1 avs' ea' (stp (rows, ans) a).2 → Q (.ref S') { s with heap := h', toks := tk' }) :
    wpAny (model PW w) A (call (.ref 256) [.ref S, .ref T]) Q E s := by
  refine enterC (n := 3) (headNews H d l hh kt n' e its) TW KX D.head.hide RA (by k_is) (by k_is) (kp_binds KX (fun _ => rfl)) (locs rfl) ?_ (by decide)
  intro h₀ L h₁ tk₁ F N X T₀ hup hdn hlt R₁
  have u₁ : Up s.heap h₁ := up_news F N hup D.head.hide fun p hp => hp
  have iS : IsTup h₀ S #[.ref H, .ref An] := isTup_of (hup S _ (D.head.tup D.tup) D.tup)
  have iT : IsTup h₀ T #[.str a.deed t1, .str a.nm t2, .int a.mode t3] := isTup_of (hup T _ (D.head.tup hT) hT)
  have gA : h₀.get? An = some (lstO avs.toArray ea) := hup An _ (by
    intro p hp
    simp only [headNews, List.mem_cons, List.not_mem_nil, or_false] at hp
    rcases hp with rfl | rfl | rfl
    · exact get_ne D.lst D.head.inst (by simp)
    · exact get_ne D.lst D.head.dict (by simp)
    · exact D.ne) D.lst
  have lA : h₀.IsList An avs.toArray := ⟨_, gA, rfl, _, rfl⟩
  obtain ⟨deed, nm, mode⟩ := a
  obtain ⟨hd, hnm, hm1, hm2⟩ := ha
  dsimp only at hd hnm hm1 hm2 iT
  simp only [List.mem_cons, List.not_mem_nil, or_false] at hd
  rcases hd with rfl | rfl | rfl | rfl
  · (try dsimp only)
    k_steps
    (rename Fr _ _ _ _ => F)
    (rename News _ _ _ _ => N)
    refine filemode_c TW (Frag.In.keeps X F.keep) (R₁.less (by decide)) ?_
    intro h₂ tk₂ t₂ up₂
    have F := F.keeps up₂
    have N := N.grown up₂
    (try dsimp only)
    k_steps
    have u₂ : Up s.heap h₂ := up_news F N hup D.head.hide fun p hp => hp
    refine setitem_c TW (Frag.In.keeps X F.keep) (R₁.less (by decide)) (head_of N D.head.hi) hnm (signs_ok _) D.rws u₂ hk hz ?_
    intro T₃ ta tb ys e₃ h₃ tk₃ u₃ hl₃ hR₃ hT₃ hn₃
    have nl := N _ (List.Mem.tail _ (List.Mem.tail _ (List.Mem.head _)))
    have N := news_add F (news_upbut N u₃ hl₃) hT₃ hn₃
    have F := fr_upbut F u₃ nl.2.2 nl.2.1
    (try dsimp only)
    k_steps
    (rename Fr _ _ _ _ => F)
    (rename News _ _ _ _ => N)
    have ub : UpBut l s.heap _ := upbut_news (l := l) F N hup D.head.hide (fun p hp hpl => by
      simp only [headNews, List.mem_cons, List.not_mem_nil, or_false] at hp
      rcases hp with rfl | rfl | rfl
      · exact List.Mem.tail _ (List.Mem.tail _ (List.Mem.head _))
      · exact List.Mem.tail _ (List.Mem.tail _ (List.Mem.tail _ (List.Mem.head _)))
      · exact absurd rfl hpl)
    refine hQ _ An _ _ avs ea _ _ ub ⟨(N _ (List.Mem.head _)).1, head_of (newsTail (newsTail N)) D.head.hi, ?_, F.keep _ _ gA, D.txt, D.ne⟩
    exact rows_snoc D.head.list ub hR₃ (N _ (List.Mem.tail _ (List.Mem.head _))).1
  · (try dsimp only)
    k_steps
    (rename Fr _ _ _ _ => F)
    (rename News _ _ _ _ => N)
    refine filemode_c TW (Frag.In.keeps X F.keep) (R₁.less (by decide)) ?_
    intro h₂ tk₂ t₂ up₂
    have F := F.keeps up₂
    have N := N.grown up₂
    (try dsimp only)
    k_steps
    refine add_c TW (Frag.In.keeps X F.keep) (R₁.less (by decide)) (rows := rows) (head_of N D.head.hi) hnm (signs_ok _) (rows_up D.rws (up_news F N hup D.head.hide fun p hp => hp)) hz ?_
    intro T₃ ta tb e₃ h₃ tk₃ u₃ hl₃ hT₃ hn₃
    have nl := N _ (List.Mem.tail _ (List.Mem.tail _ (List.Mem.head _)))
    have N := news_add F (news_upbut N u₃ hl₃) hT₃ hn₃
    have F := fr_upbut F u₃ nl.2.2 nl.2.1
    (try dsimp only)
    k_steps
    (rename Fr _ _ _ _ => F)
    (rename News _ _ _ _ => N)
    have ub : UpBut l s.heap _ := upbut_news (l := l) F N hup D.head.hide (fun p hp hpl => by
      simp only [headNews, List.mem_cons, List.not_mem_nil, or_false] at hp
      rcases hp with rfl | rfl | rfl
      · exact List.Mem.tail _ (List.Mem.tail _ (List.Mem.head _))
      · exact List.Mem.tail _ (List.Mem.tail _ (List.Mem.tail _ (List.Mem.head _)))
      · exact absurd rfl hpl)
    refine hQ _ An _ _ avs ea _ _ ub ⟨(N _ (List.Mem.head _)).1, head_of (newsTail (newsTail N)) D.head.hi, ?_, F.keep _ _ gA, D.txt, D.ne⟩
    exact rows_snoc D.head.list ub D.rws (N _ (List.Mem.tail _ (List.Mem.head _))).1
  · (try dsimp only)
    k_steps
    (rename Fr _ _ _ _ => F)
    (rename News _ _ _ _ => N)
    refine delItem_own F X (by k_inst) (by k_is) (by k_is) (by k_is) ?_
    refine del_c TW (Frag.In.keeps X F.keep) (R₁.less (by decide)) (head_of N D.head.hi) hnm D.rws (up_news F N hup D.head.hide fun p hp => hp) hk (by omega) ?_
    intro ys e₃ h₃ tk₃ u₃ hl₃ hR₃
    have nl := N _ (List.Mem.tail _ (List.Mem.tail _ (List.Mem.head _)))
    have N := news_upbut N u₃ hl₃
    have F := fr_upbut F u₃ nl.2.2 nl.2.1
    (try dsimp only)
    k_steps
    (rename Fr _ _ _ _ => F)
    (rename News _ _ _ _ => N)
    have ub : UpBut l s.heap _ := upbut_news (l := l) F N hup D.head.hide (fun p hp hpl => by
      simp only [headNews, List.mem_cons, List.not_mem_nil, or_false] at hp
      rcases hp with rfl | rfl | rfl
      · exact List.Mem.tail _ (List.Mem.head _)
      · exact List.Mem.tail _ (List.Mem.tail _ (List.Mem.head _))
      · exact absurd rfl hpl)
    refine hQ _ An _ _ avs ea _ _ ub ⟨(N _ (List.Mem.head _)).1, head_of (newsTail N) D.head.hi, ?_, F.keep _ _ gA, D.txt, D.ne⟩
    exact ⟨hR₃.1, fun i kv e => by obtain ⟨r, t1, t2, e1, e2⟩ := hR₃.2 i kv e; exact ⟨r, t1, t2, e1, ub _ _ (get_ne e2 D.head.list (by simp)) e2⟩⟩
  · (try dsimp only)
    k_steps
    (rename Fr _ _ _ _ => F)
    (rename News _ _ _ _ => N)
    refine filemode_c TW (Frag.In.keeps X F.keep) (R₁.less (by decide)) ?_
    intro h₂ tk₂ t₂ up₂
    have F := F.keeps up₂
    have N := N.grown up₂
    (try dsimp only)
    k_steps
    refine default_c TW (Frag.In.keeps X F.keep) (R₁.less (by decide)) (head_of N D.head.hi) hnm (signs_ok _) (rows_up D.rws (up_news F N hup D.head.hide fun p hp => hp)) hk hz ?_
    intro ys e₃ an t₃ h₃ tk₃ u₃ hl₃ hcase
    have nl := N _ (List.Mem.tail _ (List.Mem.tail _ (List.Mem.head _)))
    rcases hcase with ⟨k₃, hf, rfl⟩ | ⟨hf, rfl, T₃, ta, tb, rfl, hT₃, hn₃⟩
    · have N := news_upbut N u₃ hl₃
      have F := fr_upbut F u₃ nl.2.2 nl.2.1
      (try dsimp only)
      k_steps
      (rename Fr _ _ _ _ => F)
      (rename News _ _ _ _ => N)
      have ub : UpBut l s.heap _ := upbut_news (l := l) F N hup D.head.hide (fun p hp hpl => by
        simp only [headNews, List.mem_cons, List.not_mem_nil, or_false] at hp
        rcases hp with rfl | rfl | rfl
        · exact List.Mem.tail _ (List.Mem.tail _ (List.Mem.tail _ (List.Mem.head _)))
        · exact List.Mem.tail _ (List.Mem.tail _ (List.Mem.tail _ (List.Mem.tail _ (List.Mem.head _))))
        · exact absurd rfl hpl)
      have hR := (⟨D.rws.1, fun i kv e => by obtain ⟨r, t1, t2, e1, e2⟩ := D.rws.2 i kv e; exact ⟨r, t1, t2, e1, ub _ _ (get_ne e2 D.head.list (by simp)) e2⟩⟩ : Rows _ ys rows)
      refine hQ _ _ _ _ (avs ++ [.str an t₃]) _ _ _ ub ⟨(N _ (List.Mem.head _)).1, head_of (newsTail (newsTail (newsTail N))) D.head.hi, ?_, (N _ (List.Mem.tail _ (List.Mem.head _))).1, ?_, list_ne hR (N _ (List.Mem.tail _ (List.Mem.tail _ (List.Mem.tail _ (List.Mem.tail _ (List.Mem.tail _ (List.Mem.head _))))))).1 (N _ (List.Mem.tail _ (List.Mem.head _))).1⟩
      · have e : (stp (rows, ans) ⟨"default", nm, mode⟩).1 = (dflt rows nm (signs mode)).1 := rfl
        rw [e]; unfold dflt; rw [hf]; exact hR
      · have e : (stp (rows, ans) ⟨"default", nm, mode⟩).2 = ans ++ [(dflt rows nm (signs mode)).2] := rfl
        rw [e]; unfold dflt; rw [hf]; exact D.txt.snoc
    · have N := news_add F (news_upbut N u₃ hl₃) hT₃ hn₃
      have F := fr_upbut F u₃ nl.2.2 nl.2.1
      (try dsimp only)
      k_steps
      (rename Fr _ _ _ _ => F)
      (rename News _ _ _ _ => N)
      have ub : UpBut l s.heap _ := upbut_news (l := l) F N hup D.head.hide (fun p hp hpl => by
        simp only [headNews, List.mem_cons, List.not_mem_nil, or_false] at hp
        rcases hp with rfl | rfl | rfl
        · exact List.Mem.tail _ (List.Mem.tail _ (List.Mem.tail _ (List.Mem.tail _ (List.Mem.head _))))
        · exact List.Mem.tail _ (List.Mem.tail _ (List.Mem.tail _ (List.Mem.tail _ (List.Mem.tail _ (List.Mem.head _)))))
        · exact absurd rfl hpl)
      have hR := rows_snoc D.head.list ub D.rws (N _ (List.Mem.tail _ (List.Mem.tail _ (List.Mem.tail _ (List.Mem.head _))))).1
      refine hQ _ _ _ _ (avs ++ [.str (signs mode) t₃]) _ _ _ ub ⟨(N _ (List.Mem.head _)).1, head_of (newsTail (newsTail (newsTail (newsTail N)))) D.head.hi, ?_, (N _ (List.Mem.tail _ (List.Mem.head _))).1, ?_, list_ne hR (N _ (List.Mem.tail _ (List.Mem.tail _ (List.Mem.tail _ (List.Mem.tail _ (List.Mem.tail _ (List.Mem.tail _ (List.Mem.head _)))))))).1 (N _ (List.Mem.tail _ (List.Mem.head _))).1⟩
      · have e : (stp (rows, ans) ⟨"default", nm, mode⟩).1 = (dflt rows nm (signs mode)).1 := rfl
        rw [e]; unfold dflt; rw [hf]; exact hR
      · have e : (stp (rows, ans) ⟨"default", nm, mode⟩).2 = ans ++ [(dflt rows nm (signs mode)).2] := rfl
        rw [e]; unfold dflt; rw [hf]; exact D.txt.snoc
end
end
section
section
variable {w : World} {p : Program} {loose : List Str} {mg mb : Str → Option Value}
noncomputable def StepH (h₀ : Heap) (L I : Addr) (o : Obj) (s : Shared) (Inv : (Str → Option Value) → Heap → Prop) (Q : Flow → Shared → Prop) (f : Flow) (s₃ : Shared) : Prop :=
  match f with
  | .ret v => Q (.ret v) s₃
  | .brk => Q .next s₃
  | _ => ∃ h' tk' m', s₃ = { s with heap := h', toks := tk' } ∧ Fr h₀ L h' m' ∧ h'.get? I = some o ∧ Inv m' h'
/-- a loop by a list's iterator that stands, by an invariant over the frame's names and the heap -/
theorem loopH {A : Around} {env : Env} {h₀ : Heap} {target : PySem.Expr} {body : List Stmt} {Q : Flow → Shared → Prop} {s : Shared} {I l : Addr} {its : Array Value} {o₀ : Obj} {m₀ : Str → Option Value}
    (Inv : Nat → (Str → Option Value) → Heap → Prop) (hh : A.handled = none) (F : Fr h₀ env.locals s.heap m₀) (hIL : I ≠ env.locals) (hI0 : h₀.get? I = none) (hIo : s.heap.get? I = some o₀) (hi : IterO o₀ l 0) (h0 : Inv 0 m₀ s.heap)
    (stab : ∀ i m h h' o j, Inv i m h → h.get? I = some o → IterO o l j → UpBut I h h' → Inv i m h')
    (hl : ∀ i m h, Inv i m h → Up h₀ h → h.IsList l its)
    (turn : ∀ i v m h tk o, its[i]? = some v → Inv i m h → h.get? I = some o → IterO o l (i + 1) → Fr h₀ env.locals h m →
      wpAny (model PW w) A (assign target env v) (fun _ s₂ => wpAny (model PW w) A (execs body env) (StepH h₀ env.locals I o s (Inv (i + 1)) Q) (fun _ _ => False) s₂) (fun _ _ => False) { s with heap := h, toks := tk })
    (done : ∀ m h tk, Inv its.size m h → Fr h₀ env.locals h m → Q .next { s with heap := h, toks := tk }) :
    codeAny (model PW w) A (.forLoop target (.ref I) body [] env) (fun r s' => match r with | .ok f => Q f s' | .error e => cameBackBy (model PW w) A env (fun _ _ => False) e s') s := by
  refine codeAny_forLoop_any
    (fun k s' => ∃ h' tk m i o, s' = { s with heap := h', toks := tk } ∧ Fr h₀ env.locals h' m ∧ h'.get? I = some o ∧ IterO o l i ∧ Inv i m h' ∧ i ≤ its.size ∧ k = its.size + 1 - i) ?_ (its.size + 1)
    ⟨s.heap, s.toks, m₀, 0, o₀, rfl, F, hIo, hi, h0, Nat.zero_le _, rfl⟩
  rintro k s' ⟨h', tk, m, i, o, rfl, F', hIo', hi', hJ, hle, rfl⟩
  have hIt : h'.IsListIter I l i := ⟨o, hIo', hi'.1, hi'.2⟩
  have hL : h'.IsList l its := hl i m h' hJ F'.keep
  by_cases hlt : i < its.size
  · refine wpAny_pyNext_list_item hIt hL (x := its[i]) (by simp [hlt]) fun h₁ hit₁ hs₁ => ?_
    obtain ⟨o₁, ho₁, hc₁, hd₁⟩ := hit₁
    have F₁ := F'.change hs₁ hIL hI0
    refine goes_list (s := { s with heap := h₁, toks := tk }) (o := o₁) ho₁ ⟨hc₁, hd₁⟩ ?_
    refine wpAny_mono (turn i its[i] m h₁ tk o₁ (by simp [hlt]) (stab i m h' h₁ o i hJ hIo' hi' fun b o hb e => (hs₁.2 b hb).trans e) ho₁ ⟨hc₁, hd₁⟩ F₁) (fun _ s₂ h₂ => wpAny_mono h₂ (fun f s₃ h₃ => ?_) fun _ _ e => e.elim) fun _ _ e => e.elim
    cases f with
    | ret v => exact h₃
    | brk => exact h₃
    | cont =>
      obtain ⟨h₃', tk₃, m₃, rfl, F₃, hI₃, hJ₃⟩ := h₃
      exact ⟨its.size + 1 - (i + 1), by omega, h₃', tk₃, m₃, i + 1, o₁, rfl, F₃, hI₃, ⟨hc₁, hd₁⟩, hJ₃, hlt, rfl⟩
    | next =>
      obtain ⟨h₃', tk₃, m₃, rfl, F₃, hI₃, hJ₃⟩ := h₃
      exact ⟨its.size + 1 - (i + 1), by omega, h₃', tk₃, m₃, i + 1, o₁, rfl, F₃, hI₃, ⟨hc₁, hd₁⟩, hJ₃, hlt, rfl⟩
  · have hin : i = its.size := by omega
    subst hin
    refine wpAny_pyNext_list_end hh hIt hL (by simp) fun h₁ he₁ => wpAny_execs_nil ?_
    have F₁ : Fr h₀ env.locals h₁ m := ⟨F'.ns.at' fun o e => he₁ _ o (Ne.symm hIL) e, fun b o e => he₁ b o (fun q => by rw [q, hI0] at e; cases e) (F'.keep b o e), F'.above⟩
    exact done m h₁ tk (stab _ _ _ _ _ _ hJ hIo' hi' fun b o hb e => he₁ b o hb e) F₁
theorem iter_list {A : Around} {E : Value → Shared → Prop} {s : Shared} {l : Addr} {its : Array Value} {Q : Value → Shared → Prop} (hl : s.heap.IsList l its)
    (h : ∀ I h', h'.get? I = some { cls := .type "list_iterator", data := .fields #[.ref l, .int 0 0] } → s.heap.get? I = none → Up s.heap h' → Q (.ref I) { s with heap := h' }) : wpAny (model PW w) A (call (.builtin "iter") [.ref l]) Q E s := by
  refine Calls.call_function_entry (by decide +kernel) (by decide +kernel) kdk_entry_iter (kdk_args_iter _) ?_
  unfold Builtin.«iter»
  refine wpAny_bind (m := someArgs "iter" 1 2 _) (wpAny_of_eq (a := [Value.ref l]) (by first | rfl | kernel_rfl!) ?_)
  show wpAny _ _ (pyIter (.ref l) >>= _) _ _ _
  refine wpAny_bind (wpAny_pyIter_list hl ?_)
  exact wpAny_pure ⟨_, rfl, h _ _ (Heap.get?_push_size _ rfl) (Heap.get?_none_of_le (Nat.le_refl _)) fun b o e => Heap.get?_push_of_some _ e⟩
theorem iter_ne {h : Heap} {I a : Addr} {oI o : Obj} {l : Addr} {j : Nat} (hI : h.get? I = some oI) (hi : IterO oI l j) (e : h.get? a = some o) (n : o.cls ≠ .type "list_iterator") : a ≠ I := get_ne e hI (by rw [hi.1]; exact n)
theorem StAt.iter {h h' : Heap} {S H d l An I l' : Addr} {hh : Int} {kt : Tok} {n e ea j : Nat} {its : Array Value} {rows : List (Str × Str)} {avs : List Value} {ans : List Str} {oI : Obj} (D : StAt h S H d l An hh kt n e its rows avs ea ans) (hI : h.get? I = some oI) (hi : IterO oI l' j) (u : UpBut I h h') : StAt h' S H d l An hh kt n e its rows avs ea ans :=
  ⟨u _ _ (iter_ne hI hi D.tup (by simp)) D.tup, ⟨u _ _ (iter_ne hI hi D.head.inst (by simp)) D.head.inst, u _ _ (iter_ne hI hi D.head.dict (by simp)) D.head.dict, u _ _ (iter_ne hI hi D.head.list (by simp)) D.head.list, D.head.hi⟩,
    ⟨D.rws.1, fun i kv e => by obtain ⟨r, t1, t2, e1, e2⟩ := D.rws.2 i kv e; exact ⟨r, t1, t2, e1, u _ _ (iter_ne hI hi e2 (by simp)) e2⟩⟩, u _ _ (iter_ne hI hi D.lst (by simp)) D.lst, D.txt, D.ne⟩
theorem stp_names {st : List (Str × Str) × List Str} {a : Act} (ha : a.nm ∈ NM) (h : ∀ kv ∈ st.1, kv.1 ∈ NM) : ∀ kv ∈ (stp st a).1, kv.1 ∈ NM := by
  have hs : ∀ kv ∈ st.1 ++ [(a.nm, signs a.mode)], kv.1 ∈ NM := by
    intro kv hkv
    rcases List.mem_append.mp hkv with q | q
    · exact h kv q
    · rw [List.mem_singleton.mp q]; exact ha
  unfold stp
  split
  · intro kv hkv
    rcases List.mem_append.mp hkv with q | q
    · exact h kv (List.mem_filter.mp q).1
    · rw [List.mem_singleton.mp q]; exact ha
  · split
    · exact hs
    · split
      · intro kv hkv
        exact h kv (List.mem_filter.mp hkv).1
      · show ∀ kv ∈ (dflt st.1 a.nm (signs a.mode)).1, kv.1 ∈ NM
        unfold dflt
        split
        · exact h
        · exact hs
theorem stp_len {st : List (Str × Str) × List Str} {a : Act} : (stp st a).1.length ≤ st.1.length + 1 ∧ (stp st a).2.length ≤ st.2.length + 1 := by
  have hf := List.length_filter_le (fun r : Str × Str => low r.1 != low a.nm) st.1
  unfold stp
  split
  · simp only [List.length_append, List.length_singleton]; omega
  · split
    · simp only [List.length_append, List.length_singleton]; omega
    · split
      · dsimp only; omega
      · refine ⟨?_, by simp⟩
        show (dflt st.1 a.nm (signs a.mode)).1.length ≤ _
        unfold dflt
        split
        · dsimp only; omega
        · simp
theorem Strs.len {ys : List Value} {xs : List Str} (h : Strs ys xs) : ys.length = xs.length := by
  have := congrArg List.length h
  simpa using this
theorem is_other2 {M : Model} {A : Around} {E : Value → Shared → Prop} {s : Shared} {Q : Value → Shared → Prop} {x y : Addr} {ox oy : Obj} (hxy : x ≠ y) (hx : s.heap.get? x = some ox) (hy : s.heap.get? y = some oy) (hnt : oy.cls ≠ .type "tuple")
    (h : Q (.bool false) s) : wpAny M A (compareOp .Is (.ref x) (.ref y)) Q E s := by
  show wpAny M A (do return .bool (← isSame (.ref x) (.ref y))) Q E s
  refine wpAny_bind ?_
  show wpAny M A (if (x == y) = true then pure true else _) _ E s
  rw [if_neg (by simpa using hxy)]
  refine wpAny_bind (wpAny_load hx (wpAny_bind (wpAny_load hy ?_)))
  split
  · rename_i h1 _ _; exact absurd h1 hnt
  · exact wpAny_pure (wpAny_pure h)
theorem ns_ne {h : Heap} {L x : Addr} {m : Str → Option Value} {o : Obj} (n : h.Ns L m) (e : h.get? x = some o) (hd : ∀ es ep, o.data ≠ .dict es ep) : x ≠ L := by
  rintro rfl
  obtain ⟨o', es, ep, e', d', _⟩ := n
  rw [e] at e'; cases e'
  exact hd es ep d'
theorem StAt.frame {h h' : Heap} {S H d l An L : Addr} {hh : Int} {kt : Tok} {n e ea : Nat} {its : Array Value} {rows : List (Str × Str)} {avs : List Value} {ans : List Str} {m : Str → Option Value} (D : StAt h S H d l An hh kt n e its rows avs ea ans) (hL : h.Ns L m) (hd : d ≠ L) (u : UpBut L h h') : StAt h' S H d l An hh kt n e its rows avs ea ans :=
  ⟨u _ _ (ns_ne hL D.tup (by intro _ _ q; cases q)) D.tup, ⟨u _ _ (ns_ne hL D.head.inst (by intro _ _ q; cases q)) D.head.inst, u _ _ hd D.head.dict, u _ _ (ns_ne hL D.head.list (by intro _ _ q; cases q)) D.head.list, D.head.hi⟩,
    ⟨D.rws.1, fun i kv e => by obtain ⟨r, t1, t2, e1, e2⟩ := D.rws.2 i kv e; exact ⟨r, t1, t2, e1, u _ _ (ns_ne hL e2 (by intro _ _ q; cases q)) e2⟩⟩, u _ _ (ns_ne hL D.lst (by intro _ _ q; cases q)) D.lst, D.txt, D.ne⟩
/-- the acts that a list tells -/
noncomputable def Acts (h : Heap) (its : Array Value) (acts : List Act) : Prop :=
  its.size = acts.length ∧ ∀ (i : Nat) a, acts[i]? = some a → ∃ r t1 t2 t3, its[i]? = some (Value.ref r) ∧ h.get? r = some (tupO [.str a.deed t1, .str a.nm t2, .int a.mode t3])
theorem kw12 : True := by
  (k_with "exec For Name Name cons nil" => refine hold ?_)
  trivial
theorem reduce_c {A : Around} {Q E : Value → Shared → Prop} {s : Shared} {S H d l An dr : Addr} {hh : Int} {kt : Tok} {n' e ea ed : Nat} {its aits : Array Value} {rows : List (Str × Str)} {avs : List Value} {ans : List Str} {acts : List Act} (TW : Tops w p loose mg mb) (KX : (KK w.params).In s.heap) (RA : Room 5 A)
    (D : StAt s.heap S H d l An hh kt n' e its rows avs ea ans) (ha : ∀ a ∈ acts, a.ok) (hdr : s.heap.get? dr = some (lstO aits ed)) (hdl : dr ≠ l) (hA : Acts s.heap aits acts) (hk : ∀ kv ∈ rows, kv.1 ∈ NM) (hz : its.size + acts.length ≤ 900) (hza : avs.length + acts.length ≤ 900)
    (hQ : ∀ S' An' its' e' avs' ea' h' tk', UpBut l s.heap h' → StAt h' S' H d l An' hh kt n' e' its' (acts.foldl stp (rows, ans)).1 avs' ea' (acts.foldl stp (rows, ans)).2 → (acts = [] → S' = S) → Q (.ref S') { s with heap := h', toks := tk' }) :
    wpAny (model PW w) A (call (.ref 47) [.ref 256, .ref dr, .ref S]) Q E s := by
  refine enterC (n := 4) (headNews H d l hh kt n' e its) TW KX D.head.hide RA (by k_is) (by k_is) (kp_binds KX (fun _ => rfl)) (locs rfl) ?_ (by decide)
  intro h₀ L h₁ tk₁ F N X T₀ hup hdn hlt R₁
  have u₁ : Up s.heap h₁ := up_news F N hup D.head.hide fun p hp => hp
  have gd : h₀.get? dr = some (lstO aits ed) := hup dr _ (by
    intro p hp
    simp only [headNews, List.mem_cons, List.not_mem_nil, or_false] at hp
    rcases hp with rfl | rfl | rfl
    · exact get_ne hdr D.head.inst (by simp)
    · exact get_ne hdr D.head.dict (by simp)
    · exact hdl) hdr
  have lD : h₀.IsList dr aits := ⟨_, gd, rfl, _, rfl⟩
  have iS : IsTup h₀ S #[.ref H, .ref An] := isTup_of (hup S _ (D.head.tup D.tup) D.tup)
  have nl := N _ (List.Mem.tail _ (List.Mem.tail _ (List.Mem.head _)))
  have nd := N _ (List.Mem.tail _ (List.Mem.head _))
  (try dsimp only)
  k_steps
  refine iter_list (lD.at fun o e => F.keep _ o e) ?_
  intro I h₂ hI₂ hI1 up₂
  have hIL : I ≠ L := fun q => by obtain ⟨o, es, ep, e₁, r⟩ := F.ns; rw [q] at hI1; dsimp only at hI1; rw [e₁] at hI1; cases hI1
  have hI0 : h₀.get? I = none := by
    cases q : h₀.get? I with
    | none => rfl
    | some o => rw [F.keep _ _ q] at hI1; cases hI1
  have F := F.keeps up₂
  have N := N.grown up₂
  have N : News h₀ L h₂ ((I, { cls := .type "list_iterator", data := .fields #[.ref dr, .int 0 0] }) :: headNews H d l hh kt n' e its) := fun p hp => by
    rcases List.mem_cons.mp hp with rfl | hp
    · exact ⟨hI₂, hIL, hI0⟩
    · exact N p hp
  (try dsimp only)
  k_steps
  (rename Fr _ _ _ _ => F)
  (rename News _ _ _ _ => N)
  have g39 : ∃ o, (KK w.params).lookup 39 = some o ∧ o.cls ≠ .type "tuple" := ⟨_, by k_is, by simp⟩
  obtain ⟨o39, k39, c39⟩ := g39
  refine is_other2 (get_ne (iS.choose_spec.1) (X _ _ k39) ?_) (F.keep _ _ iS.choose_spec.1) (F.keep _ _ (X _ _ k39)) c39 ?_
  · rw [iS.choose_spec.2.1]; exact Ne.symm c39
  (try dsimp only)
  k_steps
  unfold Hold
  refine wpAny_For ?_
  k_steps
  (rename Fr _ _ _ _ => F)
  (rename News _ _ _ _ => N)
  have hIt := N _ (List.Mem.head _)
  refine wpAny_pyIter_listiter (l := dr) (i := 0) ⟨_, hIt.1, rfl, rfl⟩ ?_
  have hRows : Up s.heap _ := up_news F N hup D.head.hide fun p hp => List.mem_cons_of_mem _ hp
  refine loopH (its := aits) (l := dr) (fun i m h => Agree ["value", "element"] m _ ∧ ∃ S' An its' e' avs' ea', m "value" = some (.ref S') ∧ StAt h S' H d l An hh kt n' e' its' ((acts.take i).foldl stp (rows, ans)).1 avs' ea' ((acts.take i).foldl stp (rows, ans)).2 ∧ (∀ kv ∈ ((acts.take i).foldl stp (rows, ans)).1, kv.1 ∈ NM) ∧ its'.size ≤ its.size + i ∧ avs'.length ≤ avs.length + i ∧ (i = 0 → S' = S)) R₁.handled F hIL hI0 hIt.1 ⟨rfl, rfl⟩ ⟨Agree.rfl, S, An, its, e, avs, ea, if_pos rfl, ⟨hRows _ _ D.tup, ⟨hRows _ _ D.head.inst, hRows _ _ D.head.dict, hRows _ _ D.head.list, D.head.hi⟩, rows_up D.rws hRows, hRows _ _ D.lst, D.txt, D.ne⟩, hk, Nat.le_refl _, Nat.le_refl _, fun _ => rfl⟩ ?_ ?_ ?_ ?_
  · rintro i m h h' o j ⟨hag, S', An, its', e', avs', ea', hv, D', r⟩ hIo hio u
    exact ⟨hag, S', An, its', e', avs', ea', hv, D'.iter hIo hio u, r⟩
  · rintro i m h _ u
    exact lD.at fun o e => u _ o e
  · rintro i v m h tk o hv ⟨hag, S', An, its', e', avs', ea', hval, D', hk', hz₁, hz₂, hS0⟩ hIo hio F
    have hi : i < acts.length := by
      have := (Array.getElem?_eq_some_iff.mp hv).1
      rw [hA.1] at this; exact this
    obtain ⟨r, t1, t2, t3, e1, e2⟩ := hA.2 i acts[i] (List.getElem?_eq_getElem hi)
    rw [e1] at hv
    cases hv
    have hT : h.get? r = some (tupO [.str acts[i].deed t1, .str acts[i].nm t2, .int acts[i].mode t3]) := F.keep _ _ (hup r _ (D.head.tup e2) e2)
    rw [hag.eq1 hval] at F
    simp only [but] at F
    replace F : Fr h₀ L h _ := F
    (try dsimp only)
    refine wpAny_assign_Name (wpAny_storeName_local (m := _) rfl F.ns fun h₄ hn₄ hs₄ => ?_)
    have u₄ : UpBut L h h₄ := fun b o hb e => (hs₄.2 b hb).trans e
    have D' := D'.frame F.ns nd.2.1 u₄
    have hT := u₄ _ _ (ns_ne F.ns hT (by intro _ _ q; cases q)) hT
    have hIo := u₄ _ _ hIL hIo
    have F := F.set hn₄ hs₄
    have N : News h₀ L h₄ [] := fun _ h => nomatch h
    replace F : Fr h₀ L h₄ _ := F
    (try dsimp only)
    k_steps
    refine done_c TW (Frag.In.keeps X F.keep) R₁ D' (ha _ (List.getElem_mem hi)) hT hk' (by omega) (by omega) ?_
    intro S₅ An₅ its₅ e₅ avs₅ ea₅ h₅ tk₅ u₅ D₅
    have hIl : I ≠ l := Ne.symm (iter_ne hIo hio D'.head.list (by simp))
    have hIo := u₅ _ _ hIl hIo
    have F := fr_upbut F u₅ nl.2.2 nl.2.1
    refine wpAny_storeName_local (m := _) rfl F.ns fun h₆ hn₆ hs₆ => ?_
    have u₆ : UpBut L h₅ h₆ := fun b o hb e => (hs₆.2 b hb).trans e
    have D₆ := D₅.frame F.ns nd.2.1 u₆
    have hIo := u₆ _ _ hIL hIo
    have F := F.set hn₆ hs₆
    have hfold : (acts.take (i + 1)).foldl stp (rows, ans) = stp ((acts.take i).foldl stp (rows, ans)) acts[i] := by
      rw [← List.take_append_getElem hi, List.foldl_append]; rfl
    have hl₁ := D₆.rws.1
    have hl₂ := D₆.txt.len
    have hl₃ := D'.rws.1
    have hl₄ := D'.txt.len
    have hl₅ := stp_len (st := (acts.take i).foldl stp (rows, ans)) (a := acts[i])
    refine wpAny_execs_nil ⟨h₆, _, _, rfl, F, hIo, ?_, S₅, An₅, its₅, e₅, avs₅, ea₅, if_pos rfl, ?_, ?_, ?_, ?_, fun q => absurd q (Nat.succ_ne_zero _)⟩
    · intro y hy
      simp only [List.mem_cons, List.not_mem_nil, or_false, not_or] at hy
      simp only [if_neg hy.1, if_neg hy.2]
    · rw [hfold]; exact D₆
    · rw [hfold]; exact stp_names (ha _ (List.getElem_mem hi)).2.1 hk'
    · have : its₅.size ≤ its'.size + 1 := by rw [hl₁, hl₃]; exact hl₅.1
      omega
    · have : avs₅.length ≤ avs'.length + 1 := by rw [hl₂, hl₄]; exact hl₅.2
      omega
  · rintro m h tk ⟨hag, S', An, its', e', avs', ea', hval, D', hk', hz₁, hz₂, hS0⟩ F
    rw [hag.eq1 hval] at F
    simp only [but] at F
    replace F : Fr h₀ L h _ := F
    have N : News h₀ L h [] := fun _ h => nomatch h
    (try dsimp only)
    k_steps
    have hall : acts.take aits.size = acts := by rw [hA.1, List.take_length]
    rw [hall] at D'
    refine hQ _ _ _ _ _ _ _ _ ?_ D' (fun q => hS0 (by rw [hA.1, q]; rfl))
    intro b o hb e
    by_cases q1 : b = H
    · subst q1; rw [D.head.inst] at e; cases e; exact D'.head.inst
    · by_cases q2 : b = d
      · subst q2; rw [D.head.dict] at e; cases e; exact D'.head.dict
      · refine F.keep b o (hup b o (fun p hp => ?_) e)
        simp only [headNews, List.mem_cons, List.not_mem_nil, or_false] at hp
        rcases hp with rfl | rfl | rfl
        · exact q1
        · exact q2
        · exact hb
end
theorem kw13 : True := by
  k_with_none
  trivial
end
section
section
variable {w : World} {p : Program} {loose : List Str} {mg mb : Str → Option Value}
theorem append_to {A : Around} {E : Value → Shared → Prop} {s : Shared} {h₀ : Heap} {L D : Addr} {m : Str → Option Value} {nw nw' : List (Addr × Obj)} {its : Array Value} {n : Nat} {v : Value} {Q : Value → Shared → Prop}
    (F : Fr h₀ L s.heap m) (N : News h₀ L s.heap nw) (hD : (D, lstO its n) ∈ nw) (hn : ∀ q ∈ nw', q ∈ nw ∧ q.1 ≠ D) (hsz : its.size ≤ 900)
    (h : ∀ h', Fr h₀ L h' m → News h₀ L h' ((D, lstO (its.push v) (n + 1)) :: nw') → Q .none { s with heap := h' }) :
    wpAny (model PW w) A (call (.builtin "list.append") [.ref D, v]) Q E s := by
  have hm := N (D, lstO its n) hD
  refine append_at (hsz := Nat.le_trans hsz (by decide)) hm.1 fun h' hs ho' => h h' (F.change hs hm.2.1 hm.2.2) ?_
  intro p hp
  rcases List.mem_cons.mp hp with rfl | hp
  · exact ⟨ho', hm.2⟩
  · obtain ⟨q1, q2⟩ := hn p hp
    exact ⟨(hs.2 _ q2).trans (N p q1).1, (N p q1).2⟩
theorem append_row {A : Around} {E : Value → Shared → Prop} {s : Shared} {h₀ : Heap} {L D T I : Addr} {m : Str → Option Value} {x1 x2 : Addr × Obj} {oT o : Obj} {rest : List (Addr × Obj)} {its : Array Value} {n : Nat} {v : Value} {Q : Value → Shared → Prop}
    (F : Fr h₀ L s.heap m) (N : News h₀ L s.heap ((T, oT) :: x1 :: x2 :: (I, o) :: (D, lstO its n) :: rest)) (hT : oT.cls = .type "tuple") (hI : D ≠ I) (hcl : ∀ q ∈ rest, q.2.cls = .type "tuple") (hsz : its.size ≤ 900)
    (h : ∀ h', Fr h₀ L h' m → News h₀ L h' ((I, o) :: (D, lstO (its.push v) (n + 1)) :: (T, oT) :: rest) → Q .none { s with heap := h' }) :
    wpAny (model PW w) A (call (.builtin "list.append") [.ref D, v]) Q E s := by
  have nP := N _ (List.Mem.tail _ (List.Mem.tail _ (List.Mem.tail _ (List.Mem.tail _ (List.Mem.head _)))))
  refine append_to (nw' := (I, o) :: (T, oT) :: rest) F N (List.Mem.tail _ (List.Mem.tail _ (List.Mem.tail _ (List.Mem.tail _ (List.Mem.head _))))) ?_ hsz ?_
  · intro q hq
    rcases List.mem_cons.mp hq with rfl | hq
    · exact ⟨List.Mem.tail _ (List.Mem.tail _ (List.Mem.tail _ (List.Mem.head _))), Ne.symm hI⟩
    · rcases List.mem_cons.mp hq with rfl | hq
      · exact ⟨List.Mem.head _, get_ne (N _ (List.Mem.head _)).1 nP.1 (by rw [hT]; simp)⟩
      · exact ⟨List.mem_cons_of_mem _ (List.mem_cons_of_mem _ (List.mem_cons_of_mem _ (List.mem_cons_of_mem _ (List.mem_cons_of_mem _ hq)))), get_ne (N q (List.mem_cons_of_mem _ (List.mem_cons_of_mem _ (List.mem_cons_of_mem _ (List.mem_cons_of_mem _ (List.mem_cons_of_mem _ hq)))))).1 nP.1 (by rw [hcl q hq]; simp)⟩
  · intro h' F' N'
    refine h h' F' fun p hp => N' p ?_
    rcases List.mem_cons.mp hp with rfl | hp
    · exact List.Mem.tail _ (List.Mem.head _)
    · rcases List.mem_cons.mp hp with rfl | hp
      · exact List.Mem.head _
      · exact List.mem_cons_of_mem _ (List.mem_cons_of_mem _ hp)
noncomputable def name6 (k : Int) : Str := if k = 0 then "A" else if k = 1 then "a" else if k = 2 then "b" else if k = 3 then "B" else if k = 4 then "c" else "A-b"
noncomputable def deed4 (k : Int) : Str := if k = 0 then "set" else if k = 1 then "add" else if k = 2 then "drop" else "default"
noncomputable def actOf (x : Int) : Act := ⟨deed4 (Int.fmod x 4), name6 (Int.fmod (Int.fdiv x 4) 6), 32768 + Builtin.bitXor 420 (Int.fmod (Int.fdiv x 24) 4096)⟩
theorem sub_at {A : Around} {E : Value → Shared → Prop} {s : Shared} {value slice : PySem.Expr} {l : Addr} {its : Array Value} {u : Tok} {k : Int} {v : Value} {Q : Value → Shared → Prop} (hl : s.heap.IsList l its) (h0 : 0 ≤ k) (h1 : k < 1000) (hv : its[k.toNat]? = some v) (h : Q v s)
    (hs : subscripted slice false (.ref l) (.int k u) = operate [.ref l, .int k u] (getItem (.ref l) (.int k u)) := by with_unfolding_all rfl) : wpAny (model PW w) A (subscriptTail value slice (.ref l) (.int k u)) Q E s :=
  tail_any hl.typeIs PySem.F.slot_list_getitem.lookup (wpAny_getItem_list hl h0 (by omega) hv h) hs
theorem sub_six {A : Around} {E : Value → Shared → Prop} {s : Shared} {value slice : PySem.Expr} {l : Addr} {t1 t2 t3 t4 t5 t6 u : Tok} {x : Int} {Q : Value → Shared → Prop} (hl : s.heap.IsList l #[.str "A" t1, .str "a" t2, .str "b" t3, .str "B" t4, .str "c" t5, .str "A-b" t6]) (h : ∀ t', Q (.str (name6 (Int.fmod x 6)) t') s)
    (hs : subscripted slice false (.ref l) (.int (Int.fmod x 6) u) = operate [.ref l, .int (Int.fmod x 6) u] (getItem (.ref l) (.int (Int.fmod x 6) u)) := by with_unfolding_all rfl) : wpAny (model PW w) A (subscriptTail value slice (.ref l) (.int (Int.fmod x 6) u)) Q E s := by
  have hk : Int.fmod x 6 = 0 ∨ Int.fmod x 6 = 1 ∨ Int.fmod x 6 = 2 ∨ Int.fmod x 6 = 3 ∨ Int.fmod x 6 = 4 ∨ Int.fmod x 6 = 5 := by rw [Int.fmod_eq_emod_of_nonneg _ (by decide)]; omega
  generalize Int.fmod x 6 = k at *
  rcases hk with rfl | rfl | rfl | rfl | rfl | rfl
  · exact sub_at hl (by decide) (by decide) rfl (h _) hs
  · exact sub_at hl (by decide) (by decide) rfl (h _) hs
  · exact sub_at hl (by decide) (by decide) rfl (h _) hs
  · exact sub_at hl (by decide) (by decide) rfl (h _) hs
  · exact sub_at hl (by decide) (by decide) rfl (h _) hs
  · exact sub_at hl (by decide) (by decide) rfl (h _) hs
theorem sub_four {A : Around} {E : Value → Shared → Prop} {s : Shared} {value slice : PySem.Expr} {l : Addr} {t1 t2 t3 t4 u : Tok} {x : Int} {Q : Value → Shared → Prop} (hl : s.heap.IsList l #[.str "set" t1, .str "add" t2, .str "drop" t3, .str "default" t4]) (h : ∀ t', Q (.str (deed4 (Int.fmod x 4)) t') s)
    (hs : subscripted slice false (.ref l) (.int (Int.fmod x 4) u) = operate [.ref l, .int (Int.fmod x 4) u] (getItem (.ref l) (.int (Int.fmod x 4) u)) := by with_unfolding_all rfl) : wpAny (model PW w) A (subscriptTail value slice (.ref l) (.int (Int.fmod x 4) u)) Q E s := by
  have hk : Int.fmod x 4 = 0 ∨ Int.fmod x 4 = 1 ∨ Int.fmod x 4 = 2 ∨ Int.fmod x 4 = 3 := by rw [Int.fmod_eq_emod_of_nonneg _ (by decide)]; omega
  generalize Int.fmod x 4 = k at *
  rcases hk with rfl | rfl | rfl | rfl
  · exact sub_at hl (by decide) (by decide) rfl (h _) hs
  · exact sub_at hl (by decide) (by decide) rfl (h _) hs
  · exact sub_at hl (by decide) (by decide) rfl (h _) hs
  · exact sub_at hl (by decide) (by decide) rfl (h _) hs
theorem bitOr_nat (a b : Nat) : Builtin.bitOr (a : Int) (b : Int) = ((a ||| b : Nat) : Int) := by
  have hn : ∀ x : Int, Builtin.bitNot (Builtin.bitNot x) = x := by intro x; unfold Builtin.bitNot; omega
  have hg : ∀ x : Nat, decide (0 ≤ Builtin.bitNot (x : Int)) = false := by intro x; apply decide_eq_false; unfold Builtin.bitNot; omega
  unfold Builtin.bitOr Builtin.bitAnd
  rw [hg a, hg b]
  dsimp only
  rw [hn, hn, hn]
  rfl
theorem actOf_ok (x : Int) : (actOf x).ok := by
  refine ⟨?_, ?_, ?_, ?_⟩
  · show deed4 _ ∈ _
    unfold deed4
    split
    · decide
    · split
      · decide
      · split <;> decide
  · show name6 _ ∈ _
    unfold name6
    split
    · decide
    · split
      · decide
      · split
        · decide
        · split
          · decide
          · split <;> decide
  all_goals
    have h0 : 0 ≤ Int.fmod (Int.fdiv x 24) 4096 ∧ Int.fmod (Int.fdiv x 24) 4096 < 4096 := by rw [Int.fmod_eq_emod_of_nonneg _ (by decide)]; omega
    generalize hy : Int.fmod (Int.fdiv x 24) 4096 = y at h0
    obtain ⟨n, rfl⟩ := Int.eq_ofNat_of_zero_le h0.1
    have hx : Builtin.bitXor 420 (n : Int) = ((420 ||| n : Nat) : Int) - ((420 &&& n : Nat) : Int) := by
      unfold Builtin.bitXor
      rw [show (420 : Int) = ((420 : Nat) : Int) from rfl, bitOr_nat, bitAnd_nat]
    have hlt : 420 ||| n < 2 ^ 12 := Nat.or_lt_two_pow (by decide) (by omega)
    have hle : 420 ≤ 420 ||| n := Nat.left_le_or
    have hal : 420 &&& n ≤ 420 := Nat.and_le_left
    first
    | (show 32768 ≤ 32768 + Builtin.bitXor 420 _; rw [hy, hx]; omega)
    | (show 32768 + Builtin.bitXor 420 _ < 36864; rw [hy, hx]; omega)
theorem ints_get : ∀ {vs : List Value} {ns : List Int}, IntsAre vs ns → ∀ (i : Nat) v, vs[i]? = some v → ∃ x t, v = Value.int x t ∧ ns[i]? = some x
  | _, _, .nil, i, v, e => by simp at e
  | _, _, .cons n t _, 0, v, e => by simp at e; exact ⟨n, t, e.symm, rfl⟩
  | _, _, .cons _ _ h, i + 1, v, e => by simp at e; simpa using ints_get h i v e
/-- the acts, each in the ledger -/
noncomputable def ActsIn (nw : List (Addr × Obj)) (ys : List Value) (acts : List Act) : Prop := All2 (fun v (a : Act) => ∃ r t1 t2 t3, v = Value.ref r ∧ (r, tupO [.str a.deed t1, .str a.nm t2, .int a.mode t3]) ∈ nw) ys acts
theorem kw14 : True := by
  (k_with "exec For Name Name cons nil" => refine hold ?_)
  trivial
theorem kw15 : True := by
  (k_with "subscriptTail" => refine hold ?_)
  trivial
theorem kw16 : True := by
  (k_with "call builtin:list.append" => refine hold ?_)
  trivial
theorem acts_c {A : Around} {Q E : Value → Shared → Prop} {s : Shared} {l : Addr} {vs : List Value} {ns : List Int} {e : Nat} (TW : Tops w p loose mg mb) (KX : (KK w.params).In s.heap) (RA : Room 1 A)
    (hl : s.heap.get? l = some (lstO vs.toArray e)) (hi : IntsAre vs ns) (hz : ns.length ≤ 100)
    (hQ : ∀ D ys e₁ h' tk', Up s.heap h' → s.heap.get? D = none → h'.get? D = some (lstO ys e₁) → Acts h' ys (ns.map actOf) → Q (.ref D) { s with heap := h', toks := tk' }) :
    wpAny (model PW w) A (call (.ref 249) [.ref l]) Q E s := by
  refine enterC (n := 0) [] TW KX nil_hide RA (by k_is) (by k_is) (kp_binds KX (fun _ => rfl)) (locs rfl) ?_ (by decide)
  intro h₀ L h₁ tk₁ F N X T₀ hup hdn hlt R₁
  have lD : h₀.IsList l vs.toArray := ⟨_, hup l _ nil_ne hl, rfl, _, rfl⟩
  (try dsimp only)
  k_steps
  unfold Hold
  refine wpAny_For ?_
  k_steps
  (rename Fr _ _ _ _ => F)
  rename_i N
  refine iterN (its := vs.toArray) (fun i m nw => ∃ ys e₁ rest, nw = (_, lstO ys.toArray e₁) :: rest ∧ (∀ q ∈ rest, q.2.cls = .type "tuple") ∧ ActsIn rest ys ((ns.take i).map actOf) ∧ Agree ["x", "name"] m _) R₁.handled F N ⟨[], 0, [], rfl, (fun _ h => nomatch h), .nil, Agree.rfl⟩ ?_ ?_ ?_
  · rintro i m nw h _ u _
    exact lD.at fun o e => u _ o e
  · rintro I i v m nw h tk o hlI hv ⟨ys, e₁, rest, rfl, hcl, hact, hag⟩ hio F N hI
    rw [hag.eq] at F
    simp only [but] at F
    replace F : Fr h₀ L h _ := F
    replace N : News h₀ L h _ := N
    have hv' : vs[i]? = some v := by simpa using hv
    obtain ⟨x, tx, rfl, hxi⟩ := ints_get hi i v hv'
    (try dsimp only)
    k_steps
    unfold Hold
    (rename Fr _ _ _ _ => F)
    (rename News _ _ _ _ => N)
    refine sub_six (News.isList N (List.Mem.head _)) ?_
    intro t₅
    (try dsimp only)
    k_steps
    unfold Hold
    (rename Fr _ _ _ _ => F)
    (rename News _ _ _ _ => N)
    refine sub_four (News.isList N (List.Mem.head _)) ?_
    intro t₆
    (try dsimp only)
    k_steps
    unfold Hold
    (rename Fr _ _ _ _ => F)
    (rename News _ _ _ _ => N)
    have hlen := hact.length
    have hi' := (List.getElem?_eq_some_iff.mp hxi).1
    rw [List.length_map, List.length_take] at hlen
    refine append_row F N rfl (hI _ (List.Mem.head _)) hcl (by rw [List.size_toArray]; omega) ?_
    intro h₇ F N
    simp only [List.push_toArray] at N
    refine wpAny_execs_nil ⟨_, _, _, _, rfl, F, N, ?_, ys ++ [.ref _], _, _ :: rest, rfl, ?_, ?_, ?_⟩
    · intro q hq
      rcases List.mem_cons.mp hq with rfl | hq
      · exact hI (_, lstO ys.toArray e₁) (List.Mem.head _)
      · rcases List.mem_cons.mp hq with rfl | hq
        · exact get_ne (N _ (List.Mem.tail _ (List.Mem.tail _ (List.Mem.head _)))).1 (N _ (List.Mem.head _)).1 (by rw [hio.1]; simp)
        · exact hI _ (List.mem_cons_of_mem _ hq)
    · intro q hq
      rcases List.mem_cons.mp hq with rfl | hq
      · rfl
      · exact hcl q hq
    · have ht : (ns.take (i + 1)).map actOf = (ns.take i).map actOf ++ [actOf x] := by
        rw [List.take_add_one, hxi, List.map_append]; rfl
      rw [ht]
      exact (hact.mono fun v a ⟨r, t1, t2, t3, e1, e2⟩ => ⟨r, t1, t2, t3, e1, List.mem_cons_of_mem _ e2⟩).snoc ⟨_, _, _, _, rfl, List.Mem.head _⟩
    · intro y hy
      simp only [List.mem_cons, List.not_mem_nil, or_false, not_or] at hy
      simp only [if_neg hy.1, if_neg hy.2]
  · rintro m nw h tk ⟨ys, e₁, rest, rfl, hcl, hact, hag⟩ F N
    rw [hag.eq] at F
    simp only [but] at F
    replace F : Fr h₀ L h _ := F
    replace N : News h₀ L h _ := N
    (try dsimp only)
    k_steps
    have hall : ns.take vs.toArray.size = ns := by rw [List.size_toArray, hi.length, List.take_length]
    rw [hall] at hact
    show Q (.ref _) _
    refine hQ _ ys.toArray _ _ _ (fun b o e => F.keep _ _ (hup b o nil_ne e)) (new_of N (List.Mem.head _) hup nil_ne) (N _ (List.Mem.head _)).1 ⟨by simpa using hact.length, fun i a e => ?_⟩
    obtain ⟨v, e1, r, t1, t2, t3, rfl, e2⟩ := hact.get i a e
    exact ⟨r, t1, t2, t3, by simpa using e1, (N _ (List.mem_cons_of_mem _ e2)).1⟩
end
theorem kw17 : True := by
  k_with_none
  trivial
end
section
open LCg
section
variable {w : World} {A : Around} {E : Value → Shared → Prop} {s : Shared} {h₀ : Heap} {L : Addr} {m : Str → Option Value} {env : Env}
/-- one turn of a comprehension over pairs, with a test -/
noncomputable def TurnQ (w : World) (A : Around) (h₀ : Heap) (L : Addr) (m : Str → Option Value) (env : Env) (ct elt : PySem.Expr) (x x₂ : Str) (scope : Scope) (cl : List (Str × Addr)) (s : Shared) (S : List (Addr × Obj) → Prop) (Inv : Nat → List Value → List (Addr × Obj) → Prop) (i : Nat) (v : Value) (ys : List Value) (news : List (Addr × Obj)) : Prop :=
  ∃ (t : Addr) (v₁ v₂ : Value), v = .ref t ∧ (h₀.get? t = some (tupO [v₁, v₂]) ∨ (t, tupO [v₁, v₂]) ∈ news) ∧
    ∀ I oI C oC D m₂ h tk (E' : Value → Shared → Prop), NsObj oC m₂ → m₂ x = some v₁ → m₂ x₂ = some v₂ → Fr h₀ L h m → News h₀ L h ((I, oI) :: (C, oC) :: (D, lst ys) :: news) → Off3 I C D news → ((@Ne Nat I C) ∧ (@Ne Nat I D) ∧ (@Ne Nat C D)) →
      wpAny (model PW w) A (isTrue ct (compEnvC scope cl C env) (eval ct (compEnvC scope cl C env))) (fun ok s' => if ok = true then
        wpAny (model PW w) A (eval elt (compEnvC scope cl C env)) (CompEnd h₀ L m { s with heap := h, toks := tk } I oI C oC D (lst ys) S (fun y news' => Inv (i + 1) (ys ++ [y]) news')) E' s'
        else CompEnd h₀ L m { s with heap := h, toks := tk } I oI C oC D (lst ys) S (fun _ news' => Inv (i + 1) ys news') Value.none s') E' { s with heap := h, toks := tk }
theorem block_Q {ct elt iter : PySem.Expr} {x x₂ : Str} {px px₂ tp : Pos} {tkk : Nat} {scope : Scope} {cl : List (Str × Addr)} {pos : Pos} {s₂ : Shared} {I ax : Addr} {its : Array Value} {news : List (Addr × Obj)} {RR : Value → Addr → Result → Shared → Prop}
    (Inv : Nat → List Value → List (Addr × Obj) → Prop) (hsz : its.size ≤ 1000) (hcell : ∀ y ∈ scope.names, y.2 ≠ .cell) (hkind : scope.kind = .function) (hx : scope.names.lookup x = some .local) (hx₂ : scope.names.lookup x₂ = some .local) (hxx : x ≠ x₂) (hh : A.handled = none)
    (hit : s₂.heap.IsListIter I ax 0) (hax : ax ≠ I) (hl : s₂.heap.IsList ax its) (F : Fr h₀ L s₂.heap m) (N : News h₀ L s₂.heap news) (hIL : L ≠ I) (hI₀ : h₀.get? I = none) (off : ∀ p ∈ news, p.1 ≠ I) (hS : SrcAt h₀ ax its news)
    (h0 : Inv 0 [] news) (turn : ∀ i v ys news', its[i]? = some v → Inv i ys news' → SrcAt h₀ ax its news' → TurnQ w A h₀ L m env ct elt x x₂ scope cl s₂ (SrcAt h₀ ax its) Inv i v ys news')
    (hRR : ∀ D C h tk m' ys news', Fr h₀ L h m → News h₀ L h ((D, lst ys) :: news') → Off1 D news' → h.Ns C m' → h₀.get? C = none → h₀.get? D = none → C ≠ L → D ≠ L → C ≠ D → (∀ p ∈ news', p.1 ≠ C) → Inv its.size ys news' → RR (.ref D) C (.ok .next) { s₂ with heap := h, toks := tk }) :
    wpAny (model PW w) A (newList []) (fun acc s₃ => wpAny (model PW w) A (newFunctionEnv scope env.globals cl [] env.qual none .none (some env)) (fun cenv s₄ =>
      codeAny (model PW w) A (.compStart (.ListComp elt [⟨.Tuple [.Name x px, .Name x₂ px₂] tkk tp, iter, [ct], 0⟩] scope pos) 0 (.ref I) acc { cenv with scope := relabel scope env }) (RR acc cenv.locals) s₄) E s₃) E s₂ := by
  refine wpAny_newObj_type (wpAny_newFunctionEnv hcell (by intro y hy; simp at hy) (fun h₁ hns₁ hsb₁ => ?_) hkind)
  dsimp only at hns₁ hsb₁ ⊢
  generalize hH2 : s₂.heap.push { cls := .type "list", dict := none, data := .seq ([] : List Value).toArray } = H2 at hns₁ hsb₁ ⊢
  have hC : H2.objs.size = s₂.heap.objs.size + 1 := by rw [← hH2, Heap.size_push]
  generalize hD : s₂.heap.objs.size = D at hC ⊢
  generalize hCC : H2.objs.size = C at *
  have hDC : D ≠ C := by rw [hC]; exact Nat.ne_of_lt (Nat.lt_succ_self _)
  have below : ∀ b, b < D → b ≠ C ∧ b ≠ D := fun b hb => ⟨by rw [hC]; exact Nat.ne_of_lt (Nat.lt_succ_of_lt hb), Nat.ne_of_lt hb⟩
  have lts : ∀ b o, s₂.heap.get? b = some o → b < D := fun b o e => hD ▸ Heap.lt_size e
  obtain ⟨oI₀, heI₀, _⟩ := id hit
  have hIlt : I < D := lts _ _ heI₀
  have old : ∀ b o, s₂.heap.get? b = some o → h₁.get? b = some o := fun b o e => hsb₁.extBut b o (below b (lts b o e)).1 (Heap.get?_push_of_some _ (hH2 ▸ Heap.get?_push_of_some _ e))
  have hacc : h₁.get? D = some (lst []) := hsb₁.extBut _ _ hDC (Heap.get?_push_of_some _ (hH2 ▸ hD ▸ Heap.get?_push_size _ rfl))
  have fresh₀ : ∀ a, D ≤ a → h₀.get? a = none := fun a ha => by
    cases e : h₀.get? a with
    | none => rfl
    | some o' => exact absurd (lts _ _ (F.keep a o' e)) (Nat.not_lt.mpr ha)
  have hD₀ : h₀.get? D = none := fresh₀ _ (Nat.le_refl _)
  have hC₀ : h₀.get? C = none := fresh₀ _ (by rw [hC]; exact Nat.le_succ _)
  have hLlt : L < D := hD ▸ F.ns.lt
  have hDL : D ≠ L := Ne.symm (below L hLlt).2
  have hCL : C ≠ L := Ne.symm (below L hLlt).1
  have hCI : I ≠ C := (below I hIlt).1
  have hDI : I ≠ D := (below I hIlt).2
  have off₀ : Off3 I C D news := Off3.of fun p hp => ⟨off p hp, (below _ (lts _ _ (N p hp).1)).1, (below _ (lts _ _ (N p hp).1)).2⟩
  have loop : ∀ s₃ : Shared, s₃ = { s₂ with heap := h₁, toks := s₂.toks + ([] : List (Str × Value)).length } →
      codeAny (model PW w) A (.compLoop (.ListComp elt [⟨.Tuple [.Name x px, .Name x₂ px₂] tkk tp, iter, [ct], 0⟩] scope pos) 0 (.ref I) (.ref D) (compEnvC scope cl C env)) (RR (.ref D) C) s₃ := by
    rintro s₃ rfl
    refine kct_loop
      (fun k s' => ∃ h' tk i ys m' news', s' = { s₂ with heap := h', toks := tk } ∧ i ≤ its.size ∧ k = its.size + 1 - i ∧ ys.length ≤ i ∧ h'.IsListIter I ax i ∧ Fr h₀ L h' m ∧ h'.Ns C m' ∧ News h₀ L h' ((D, lst ys) :: news') ∧ Off3 I C D news' ∧ SrcAt h₀ ax its news' ∧ Inv i ys news') ?_ (its.size + 1)
      ⟨h₁, _, 0, [], _, news, rfl, Nat.zero_le _, rfl, Nat.le_refl _, hit.at fun o e => old _ o e, F.keeps old, hns₁, fun p hp => ?_, off₀, hS, h0⟩
    · rintro k s' ⟨h', tk, i, ys, m', news', rfl, hi, rfl, hyl, hit', F', hn', N', off', hS', R'⟩
      have off3 := off'.mem
      have hl' : h'.IsList ax its := hS'.list F'.keep fun p hp => N' p (List.mem_cons_of_mem _ hp)
      by_cases hlt : i < its.size
      · refine wpAny_pyNext_list_item hit' hl' (x := its[i]) (by simp [hlt]) fun h₂ hit₂ hs₂ => ?_
        have up₂ : ∀ b o, b ≠ I → h'.get? b = some o → h₂.get? b = some o := fun b o hb e => (hs₂.2 b hb).trans e
        obtain ⟨t, v₁, v₂, hv, hmt, R''⟩ := turn i its[i] ys news' (by simp [hlt]) R' hS'
        rw [hv]
        have F₂ : Fr h₀ L h₂ m := F'.change hs₂ (Ne.symm hIL) hI₀
        have N₂ : News h₀ L h₂ ((D, lst ys) :: news') := fun p hp => by
          refine ⟨up₂ _ _ ?_ (N' p hp).1, (N' p hp).2⟩
          rcases List.mem_cons.mp hp with rfl | hp
          · exact Ne.symm hDI
          · exact (off3 p hp).1
        have ht : IsTup h₂ t #[v₁, v₂] := by
          rcases hmt with q | q
          · exact ⟨_, F₂.keep _ _ q, rfl, _, rfl⟩
          · exact ⟨_, (N₂ _ (List.mem_cons_of_mem _ q)).1, rfl, _, rfl⟩
        refine wpAny_letOwnedTupleGo_listiter hit₂ ?_
        refine assign_Tuple_tuple hh ht rfl rfl fun h₅ he => ?_
        have he' : ∀ b o, h₂.get? b = some o → h₅.get? b = some o := fun b o e => he b o (Nat.ne_of_lt (Heap.lt_size e)) e
        refine assignInOrder_cons (wpAny_assign_Name (wpAny_storeName_local (lookup_relabel_local hx) ((hn'.at' fun o e => up₂ _ o (Ne.symm hCI) e).at' fun o e => he' _ o e) (fun h₆ hn₆ hs₆ => ?_) (by simp [compEnvC, relabel, hkind])))
        refine assignInOrder_cons (wpAny_assign_Name (wpAny_storeName_local (lookup_relabel_local hx₂) hn₆ (fun h₃ hn₃ hs₃ => ?_) (by simp [compEnvC, relabel, hkind])))
        refine assignInOrder_nil ?_
        have old3 : ∀ b o, b ≠ C → h₂.get? b = some o → h₃.get? b = some o := fun b o hb e => hs₃.extBut b o hb (hs₆.extBut b o hb (he' b o e))
        obtain ⟨oI, heI, hcI, hdI⟩ := id hit₂
        have heI₃ : h₃.get? I = some oI := old3 _ _ hCI heI
        obtain ⟨oC, heC, hoC⟩ := ns_obj hn₃
        have F₃ : Fr h₀ L h₃ m := ((F₂.keeps he').change hs₆ hCL hC₀).change hs₃ hCL hC₀
        have N₃ : News h₀ L h₃ ((I, oI) :: (C, oC) :: (D, lst ys) :: news') := fun p hp => by
          rcases List.mem_cons.mp hp with rfl | hp
          · exact ⟨heI₃, Ne.symm hIL, hI₀⟩
          · rcases List.mem_cons.mp hp with rfl | hp
            · exact ⟨heC, hCL, hC₀⟩
            · have z := N₂ p hp
              refine ⟨old3 _ _ ?_ z.1, z.2⟩
              rcases List.mem_cons.mp hp with rfl | hp
              · exact hDC
              · exact (off3 p hp).2.1
        refine wpAny_mono (R'' I oI C oC D _ h₃ _ _ hoC (by simp [hxx]) (by simp) F₃ N₃ off' ⟨hCI, hDI, Ne.symm hDC⟩) (fun ok s₄ h₄ => ?_) fun _ _ e => e
        cases ok with
        | true =>
          simp only [if_true] at h₄ ⊢
          refine wpAny_mono h₄ (fun y s₅ h₅ => ?_) fun _ _ e => e
          obtain ⟨h₄, tk₄, news₄, rfl, F₄, N₄, off₄, hS₄, R₄⟩ := h₅
          have zI := (N₄ (I, oI) List.mem_cons_self).1
          have zC := (N₄ (C, oC) (List.mem_cons_of_mem _ List.mem_cons_self)).1
          have zD := (N₄ (D, lst ys) (List.mem_cons_of_mem _ (List.mem_cons_of_mem _ List.mem_cons_self))).1
          have N₄' : News h₀ L h₄ news₄ := fun p hp => N₄ p (List.mem_cons_of_mem _ (List.mem_cons_of_mem _ (List.mem_cons_of_mem _ hp)))
          refine append_at (hsz := by show ys.toArray.size ≤ sizeLine; rw [List.size_toArray, sizeLine_eq]; omega) zD fun h₅ hs₅ hD₅ => ?_
          have off4 := off₄.mem
          refine ⟨its.size + 1 - (i + 1), by omega, h₅, tk₄, i + 1, ys ++ [y], _, news₄, rfl, hlt, rfl, by rw [List.length_append, List.length_singleton]; exact Nat.succ_le_succ hyl, ⟨oI, hs₅.extBut _ _ hDI zI, hcI, hdI⟩, F₄.change hs₅ hDL hD₀,
            (hoC.ns zC).sameBut hs₅ (Ne.symm hDC), fun p hp => ?_, off₄, hS₄, R₄⟩
          rcases List.mem_cons.mp hp with rfl | hp
          · exact ⟨hD₅.trans (congrArg some (lst_snoc ys y)), hDL, hD₀⟩
          · exact ⟨hs₅.extBut _ _ (off4 p hp).2.2 (N₄' p hp).1, (N₄' p hp).2⟩
        | false =>
          simp only [Bool.false_eq_true, if_false] at h₄ ⊢
          obtain ⟨h₅, tk₄, news₄, rfl, F₄, N₄, off₄, hS₄, R₄⟩ := h₄
          have zI := (N₄ (I, oI) List.mem_cons_self).1
          have zC := (N₄ (C, oC) (List.mem_cons_of_mem _ List.mem_cons_self)).1
          exact ⟨its.size + 1 - (i + 1), by omega, h₅, tk₄, i + 1, ys, _, news₄, rfl, hlt, rfl, Nat.le_succ_of_le hyl, ⟨oI, zI, hcI, hdI⟩, F₄, hoC.ns zC, fun p hp => N₄ p (List.mem_cons_of_mem _ (List.mem_cons_of_mem _ hp)), off₄, hS₄, R₄⟩
      · obtain rfl : i = its.size := Nat.le_antisymm hi (Nat.not_lt.mp hlt)
        refine wpAny_pyNext_list_end hh hit' hl' (by simp) fun h₂ he₂ => ?_
        have up₂ : ∀ b o, b ≠ I → h'.get? b = some o → h₂.get? b = some o := fun b o hb e => he₂ b o hb e
        refine hRR _ _ h₂ tk _ ys news' ⟨F'.ns.at' fun o e => up₂ _ o hIL e, fun b o e => up₂ b o (fun q => by rw [q, hI₀] at e; cases e) (F'.keep b o e), F'.above⟩ (fun p hp => ⟨up₂ _ _ ?_ (N' p hp).1, (N' p hp).2⟩) off'.one (hn'.at' fun o e => up₂ _ o (Ne.symm hCI) e) hC₀ hD₀ hCL hDL (Ne.symm hDC) (fun p hp => (off3 p hp).2.1) R'
        rcases List.mem_cons.mp hp with rfl | hp
        · exact Ne.symm hDI
        · exact (off3 p hp).1
    · rcases List.mem_cons.mp hp with rfl | hp
      · exact ⟨hacc, hDL, hD₀⟩
      · exact ⟨old _ _ (N p hp).1, (N p hp).2⟩
  refine codeAny_compStart_list (loop _ rfl) (wpAny_pyIter_listiter (l := ax) (i := 0) (hit.at fun o e => old _ o e) (loop _ rfl))
/-- where a comprehension over pairs draws from -/
noncomputable def SrcQ (w : World) (A : Around) (h₀ : Heap) (L : Addr) (m : Str → Option Value) (env : Env) (ct elt : PySem.Expr) (x x₂ : Str) (scope : Scope) (cl : List (Str × Addr)) (Fin : Shared → List Value → List (Addr × Obj) → Prop) (xv : Value) (s₁ : Shared) : Prop :=
  ∃ ax its news, xv = .ref ax ∧ Fr h₀ L s₁.heap m ∧ News h₀ L s₁.heap news ∧ SrcAt h₀ ax its news ∧ its.size ≤ 1000 ∧ ∃ Inv : Nat → List Value → List (Addr × Obj) → Prop, Inv 0 [] news ∧
    ∀ s₂ : Shared, (∃ h, s₂ = { s₁ with heap := h }) → (∀ i v ys news', its[i]? = some v → Inv i ys news' → SrcAt h₀ ax its news' → TurnQ w A h₀ L m env ct elt x x₂ scope cl s₂ (SrcAt h₀ ax its) Inv i v ys news') ∧ ∀ ys news', Inv its.size ys news' → Fin s₂ ys news'
theorem ListComp_Q {ct elt iter : PySem.Expr} {x x₂ : Str} {px px₂ tp : Pos} {tkk : Nat} {scope : Scope} {cl : List (Str × Addr)} {pos : Pos} {Q : Value → Shared → Prop} (_F₀ : Fr h₀ L s.heap m)
    (hh : A.handled = none) (hclos : closureFor scope env = pure cl) (hcell : ∀ y ∈ scope.names, y.2 ≠ .cell) (hkind : scope.kind = .function)
    (hnames : ∀ y ∈ scope.names, y.2 = .local → scope.names.lookup y.1 = some .local) (hx : scope.names.lookup x = some .local) (hx₂ : scope.names.lookup x₂ = some .local) (hxx : x ≠ x₂)
    (h : wpAny (model PW w) A (eval iter env) (SrcQ w A h₀ L m env ct elt x x₂ scope cl (fun s₂ => FinE h₀ L m s₂ Q)) E s)
    (hs : ∀ x, foldedSetIterable iter env x = pure x := by intro _; rfl) :
    wpAny (model PW w) A (eval (.ListComp elt [⟨.Tuple [.Name x px, .Name x₂ px₂] tkk tp, iter, [ct], 0⟩] scope pos) env) Q E s := by
  rw [eval_ListComp]
  refine wpAny_comprehension_free (use := none) rfl hs hclos hkind hnames (wpAny_mono h (fun xv s₁ h₁ => ?_) fun _ _ e => e)
  obtain ⟨ax, its, news, rfl, F, N, S, hsz, Inv, h0, R⟩ := h₁
  have hl := S.list F.keep N
  have hlt : ax < s₁.heap.objs.size := by obtain ⟨_, e, _⟩ := hl; exact Heap.lt_size e
  refine wpAny_pyIter_list hl ?_
  have up : ∀ b o, s₁.heap.get? b = some o → (s₁.heap.push { cls := .type "list_iterator", data := .fields #[.ref ax, .int 0 0] }).get? b = some o := fun b o e => Heap.get?_push_of_some _ e
  refine block_Q Inv hsz hcell hkind hx hx₂ hxx hh ⟨_, Heap.get?_push_size _ rfl, rfl, rfl⟩ (Nat.ne_of_lt hlt) (hl.push _) (F.keeps up) (N.grown up) (Nat.ne_of_lt F.ns.lt) (next_is_new F) (fun p hp => Nat.ne_of_lt (Heap.lt_size (N p hp).1)) S h0 (R _ ⟨_, rfl⟩).1 ?_
  intro D C h tk m' ys news' F' N' o1 hn hC₀ hD₀ hCL hDL hCD offC fin
  refine ⟨m', hn, fun h'' hs'' => (R { s₁ with heap := s₁.heap } ⟨s₁.heap, rfl⟩).2 ys news' fin D h'' tk (F'.change hs'' hCL hC₀) (fun p hp => ?_) o1⟩
  refine ⟨hs''.extBut _ _ ?_ (N' p hp).1, (N' p hp).2⟩
  rcases List.mem_cons.mp hp with rfl | hp
  · exact Ne.symm hCD
  · exact offC p hp
theorem Assign_ListComp_Q {ct elt iter : PySem.Expr} {x x₂ y : Str} {px px₂ tp py : Pos} {tkk : Nat} {scope : Scope} {cl : List (Str × Addr)} {pos spos : Pos} {Q : Flow → Shared → Prop} (_F₀ : Fr h₀ L s.heap m) (hLe : env.locals = L)
    (hsw : swapsWith (.ListComp elt [⟨.Tuple [.Name x px, .Name x₂ px₂] tkk tp, iter, [ct], 0⟩] scope pos) (some (.Name y py)) spos.line env = pure true)
    (hh : A.handled = none) (hclos : closureFor scope env = pure cl) (hcell : ∀ z ∈ scope.names, z.2 ≠ .cell) (hkind : scope.kind = .function)
    (hnames : ∀ z ∈ scope.names, z.2 = .local → scope.names.lookup z.1 = some .local) (hx : scope.names.lookup x = some .local) (hx₂ : scope.names.lookup x₂ = some .local) (hxx : x ≠ x₂)
    (hy : env.kindOf y = some .local) (hp : (env.scope.kind == .class || (env.scope.kind == .module && env.locals != env.globals)) = false)
    (h : wpAny (model PW w) A (eval iter env) (SrcQ w A h₀ L m env ct elt x x₂ scope cl (fun s₂ => FinA h₀ L m s₂ y Q)) E s)
    (hs : ∀ x, foldedSetIterable iter env x = pure x := by intro _; rfl) :
    wpAny (model PW w) A (exec (.Assign [.Name y py] (.ListComp elt [⟨.Tuple [.Name x px, .Name x₂ px₂] tkk tp, iter, [ct], 0⟩] scope pos) spos) env) Q E s := by
  subst hLe
  rw [exec_Assign_Name_used _ _ _ _ hsw]
  refine wpAny_bind (wpAny_standAt (wpAny_bind ?_))
  show wpAny _ A (do let _ ← comprehension (.ListComp elt [⟨.Tuple [.Name x px, .Name x₂ px₂] tkk tp, iter, [ct], 0⟩] scope pos) scope env _ (newList []) false (eval iter env) (some (assign (.Name y py) env))) _ _ s
  refine wpAny_bind (wpAny_mono (wpAny_comprehension_free (use := some (assign (.Name y py) env)) (Q := fun _ s' => Q .next s') rfl hs hclos hkind hnames
    (wpAny_mono h (fun xv s₁ h₁ => ?_) fun _ _ e => e)) (fun _ s' hq => wpAny_pure (wpAny_pure hq)) fun _ _ e => e)
  obtain ⟨ax, its, news, rfl, F, N, S, hsz, Inv, h0, R⟩ := h₁
  have hl := S.list F.keep N
  have hlt : ax < s₁.heap.objs.size := by obtain ⟨_, e, _⟩ := hl; exact Heap.lt_size e
  refine wpAny_pyIter_list hl ?_
  have up : ∀ b o, s₁.heap.get? b = some o → (s₁.heap.push { cls := .type "list_iterator", data := .fields #[.ref ax, .int 0 0] }).get? b = some o := fun b o e => Heap.get?_push_of_some _ e
  refine block_Q Inv hsz hcell hkind hx hx₂ hxx hh ⟨_, Heap.get?_push_size _ rfl, rfl, rfl⟩ (Nat.ne_of_lt hlt) (hl.push _) (F.keeps up) (N.grown up) (Nat.ne_of_lt F.ns.lt) (next_is_new F) (fun p hp => Nat.ne_of_lt (Heap.lt_size (N p hp).1)) S h0 (R _ ⟨_, rfl⟩).1 ?_
  intro D C h' tk m' ys news' F' N' o1 hn hC₀ hD₀ hCL hDL hCD offC fin
  show wpAny _ A (assign (.Name y py) env (.ref D)) _ _ _
  refine wpAny_assign_Name (wpAny_storeName_local hy F'.ns (fun h₂ hn₂ hs₂ => ?_) hp)
  have F₂ := F'.set hn₂ hs₂
  refine ⟨m', hn.sameBut hs₂ hCL, fun h'' hs'' => (R { s₁ with heap := s₁.heap } ⟨s₁.heap, rfl⟩).2 ys news' fin D h'' _ (F₂.change hs'' hCL hC₀) (fun p hp => ?_) o1⟩
  have z : h₂.get? p.1 = some p.2 := hs₂.extBut _ _ (N' p hp).2.1 (N' p hp).1
  refine ⟨hs''.extBut _ _ ?_ z, (N' p hp).2⟩
  rcases List.mem_cons.mp hp with rfl | hp
  · exact Ne.symm hCD
  · exact offC p hp
end
end
section
open PySem.SeqAt PySem.Spec
theorem ok_str {x : Str} (h : okS x) : PyData.strOk x = true := by
  unfold PyData.strOk
  rw [Array.all_eq_true]
  intro i hi
  have := h.2 i hi
  have e : x.cps.getD i 0 = x.cps[i] := by simp [hi]
  rw [e] at this
  exact decide_eq_true (Nat.lt_trans this.2 (by decide))
noncomputable abbrev pdS (xs : List Str) : List PyData := xs.map PyData.str
noncomputable abbrev pdR (rows : List (Str × Str)) : List PyData := rows.map fun kv => PyData.tuple [.str kv.1, .str kv.2]
theorem reads_strs {h : Heap} : ∀ {vs : List Value} {xs : List Str}, Strs vs xs → ∃ as, ReadsAll h vs (pdS xs) as
  | [], [], _ => ⟨_, .nil⟩
  | [], _ :: _, h => by simp [Strs] at h
  | _ :: _, [], h => by simp [Strs] at h
  | v :: r, x :: q, h => by
    unfold Strs at h
    rw [List.map_cons, List.map_cons] at h
    obtain ⟨h1, h2⟩ := List.cons.inj h
    obtain ⟨as, ra⟩ := reads_strs h2
    cases v with
    | str y t => cases h1; exact ⟨_, .cons (.str _ _) ra⟩
    | _ => cases h1
theorem reads_strsL {h : Heap} {a : Addr} {vs : List Value} {xs : List Str} {e : Nat} (hl : h.get? a = some (lstO vs.toArray e)) (hs : Strs vs xs) : ∃ as, Reads h (.ref a) (.list (pdS xs)) as := by
  obtain ⟨as, ra⟩ := reads_strs (h := h) hs
  exact ⟨_, reads_list_at hl rfl rfl (by simpa using ra)⟩
theorem reads_rowsA {h : Heap} : ∀ {vs : List Value} {rows : List (Str × Str)}, All2 (RowOf h) vs rows → ∃ as, ReadsAll h vs (pdR rows) as
  | [], [], _ => ⟨_, .nil⟩
  | _, _, .cons (y := kv) ⟨r, t1, t2, e1, e2⟩ t => by
    obtain ⟨as, ra⟩ := reads_rowsA t
    subst e1
    exact ⟨_, .cons (reads_tuple_at e2 rfl rfl (.cons (.str _ _) (.cons (.str _ _) .nil))) ra⟩
theorem all2_rows {h : Heap} {its : Array Value} {rows : List (Str × Str)} (H : Rows h its rows) : All2 (RowOf h) its.toList rows := by
  have key : ∀ (vs : List Value) (rows : List (Str × Str)), vs.length = rows.length → (∀ (i : Nat) kv, rows[i]? = some kv → ∃ r t1 t2, vs[i]? = some (Value.ref r) ∧ h.get? r = some (tupO [.str kv.1 t1, .str kv.2 t2])) → All2 (RowOf h) vs rows := by
    intro vs
    induction vs with
    | nil => intro rows hl _; cases rows with
      | nil => exact .nil
      | cons _ _ => simp at hl
    | cons v vs ih => intro rows hl hh; cases rows with
      | nil => simp at hl
      | cons kv rows =>
        obtain ⟨r, t1, t2, e1, e2⟩ := hh 0 kv rfl
        exact .cons ⟨r, t1, t2, by simpa using e1, e2⟩ (ih rows (by simpa using hl) fun i kv' e => by simpa using hh (i + 1) kv' (by simpa using e))
  exact key its.toList rows (by rw [Array.length_toList]; exact H.1) fun i kv e => by
    obtain ⟨r, t1, t2, e1, e2⟩ := H.2 i kv e
    exact ⟨r, t1, t2, by simpa using e1, e2⟩
theorem reads_rowsL {h : Heap} {a : Addr} {its : Array Value} {rows : List (Str × Str)} {e : Nat} (hl : h.get? a = some (lstO its e)) (H : Rows h its rows) : ∃ as, Reads h (.ref a) (.list (pdR rows)) as := by
  obtain ⟨as, ra⟩ := reads_rowsA (all2_rows H)
  exact ⟨_, reads_list_at hl rfl rfl ra⟩
theorem lay_all {ds : List PyData} {n : Nat} (h : ∀ d ∈ ds, d.canLay0 = true ∧ d.depth ≤ n) : PyData.canLayAll0 ds = true ∧ PyData.depthAll ds ≤ n := by
  induction ds with
  | nil => simp [PyData.canLayAll0, PyData.depthAll]
  | cons d ds ih =>
    have h1 := h d (List.Mem.head _)
    have h2 := ih fun e he => h e (List.mem_cons_of_mem _ he)
    simp only [PyData.canLayAll0, PyData.depthAll, h1.1, h2.1, Bool.and_self, true_and]
    have a1 := h1.2
    have a2 := h2.2
    omega
theorem lay_list {ds : List PyData} {n : Nat} (h : ∀ d ∈ ds, d.canLay0 = true ∧ d.depth ≤ n) : (PyData.list ds).canLay0 = true ∧ (PyData.list ds).depth ≤ n + 1 := by
  have := lay_all h
  simp only [PyData.canLay0, PyData.depth, this.1, true_and]
  have := this.2
  omega
theorem lay_tuple {ds : List PyData} {n : Nat} (h : ∀ d ∈ ds, d.canLay0 = true ∧ d.depth ≤ n) : (PyData.tuple ds).canLay0 = true ∧ (PyData.tuple ds).depth ≤ n + 1 := by
  have := lay_all h
  simp only [PyData.canLay0, PyData.depth, this.1, true_and]
  have := this.2
  omega
theorem lay_strs {xs : List Str} (h : ∀ x ∈ xs, okS x) : ∀ d ∈ pdS xs, d.canLay0 = true ∧ d.depth ≤ 0 := by
  intro d hd
  obtain ⟨x, hx, rfl⟩ := List.mem_map.mp hd
  simp [PyData.canLay0, PyData.depth, ok_str (h x hx)]
theorem lay_rows {rows : List (Str × Str)} (h : ∀ kv ∈ rows, okS kv.1 ∧ okS kv.2) : ∀ d ∈ pdR rows, d.canLay0 = true ∧ d.depth ≤ 1 := by
  intro d hd
  obtain ⟨kv, hx, rfl⟩ := List.mem_map.mp hd
  refine lay_tuple (n := 0) ?_
  intro d hd
  simp only [List.mem_cons, List.not_mem_nil, or_false] at hd
  rcases hd with rfl | rfl
  · simp [PyData.canLay0, PyData.depth, ok_str (h kv hx).1]
  · simp [PyData.canLay0, PyData.depth, ok_str (h kv hx).2]
theorem shaped_of {d : PyData} {n : Nat} (h : d.canLay0 = true ∧ d.depth ≤ n) (hn : n ≤ 64) : shaped d = true := by
  unfold shaped; rw [h.1, Bool.true_and]; exact decide_eq_true (Nat.le_trans h.2 hn)
theorem eqvAll_refl {ds : List PyData} (h : ∀ d ∈ ds, PyData.eqv d d = true) : PyData.eqvAll ds ds = true := by
  induction ds with
  | nil => rfl
  | cons d ds ih => simp only [PyData.eqvAll, h d (List.Mem.head _), ih fun e he => h e (List.mem_cons_of_mem _ he), Bool.and_self]
theorem eqv_str (x : Str) : PyData.eqv (.str x) (.str x) = true := by simp [PyData.eqv]
theorem eqv_strs (xs : List Str) : PyData.eqv (.list (pdS xs)) (.list (pdS xs)) = true := by
  simp only [PyData.eqv]
  refine eqvAll_refl fun d hd => ?_
  obtain ⟨x, _, rfl⟩ := List.mem_map.mp hd
  exact eqv_str x
theorem eqv_rows (rows : List (Str × Str)) : PyData.eqv (.list (pdR rows)) (.list (pdR rows)) = true := by
  simp only [PyData.eqv]
  refine eqvAll_refl fun d hd => ?_
  obtain ⟨x, _, rfl⟩ := List.mem_map.mp hd
  simp only [PyData.eqv]
  simp only [PyData.eqvAll, eqv_str, Bool.and_self]
section
variable {w : World} {A : Around} {E : Value → Shared → Prop} {s : Shared} {Q : Value → Shared → Prop}
theorem eq_nil_c {a b : Addr} {vs : List Value} {xs : List Str} {e e' : Nat} (ha : s.heap.get? a = some (lstO vs.toArray e)) (hs : Strs vs xs) (hok : ∀ x ∈ xs, okS x) (hb : s.heap.get? b = some (lstO #[] e')) (hu : A.units + 64 < cLine) (h : Q (.bool (decide (xs = []))) s) :
    wpAny (model PW w) A (compareOp .Eq (.ref a) (.ref b)) Q E s := by
  obtain ⟨as, ra⟩ := reads_strsL ha hs
  have rb : Reads s.heap (.ref b) (.list []) [b] := reads_list_at hb rfl rfl .nil
  refine eq_dataH ra rb (shaped_of (lay_list (lay_strs hok)) (by decide)) (by decide +kernel) hu ?_
  have e : PyData.eqv (.list (pdS xs)) (.list []) = decide (xs = []) := by
    cases xs with
    | nil => simp [PyData.eqv, PyData.eqvAll]
    | cons x r => simp [PyData.eqv, PyData.eqvAll]
  rw [e]; exact h
theorem ne_strs_c {a b : Addr} {vs ws : List Value} {xs : List Str} {e e' : Nat} (ha : s.heap.get? a = some (lstO vs.toArray e)) (hs : Strs vs xs) (hok : ∀ x ∈ xs, okS x) (hb : s.heap.get? b = some (lstO ws.toArray e')) (hs' : Strs ws xs) (hu : A.units + 64 < cLine) (h : Q (.bool false) s) :
    wpAny (model PW w) A (compareOp .NotEq (.ref a) (.ref b)) Q E s := by
  obtain ⟨as, ra⟩ := reads_strsL ha hs
  obtain ⟨bs, rb⟩ := reads_strsL hb hs'
  refine ne_dataH ra rb (shaped_of (lay_list (lay_strs hok)) (by decide)) (shaped_of (lay_list (lay_strs hok)) (by decide)) hu ?_
  rw [eqv_strs]; exact h
theorem ne_rows_c {a b : Addr} {its its' : Array Value} {rows : List (Str × Str)} {e e' : Nat} (ha : s.heap.get? a = some (lstO its e)) (hs : Rows s.heap its rows) (hok : ∀ kv ∈ rows, okS kv.1 ∧ okS kv.2) (hb : s.heap.get? b = some (lstO its' e')) (hs' : Rows s.heap its' rows) (hu : A.units + 64 < cLine) (h : Q (.bool false) s) :
    wpAny (model PW w) A (compareOp .NotEq (.ref a) (.ref b)) Q E s := by
  obtain ⟨as, ra⟩ := reads_rowsL ha hs
  obtain ⟨bs, rb⟩ := reads_rowsL hb hs'
  refine ne_dataH ra rb (shaped_of (lay_list (lay_rows hok)) (by decide)) (shaped_of (lay_list (lay_rows hok)) (by decide)) hu ?_
  rw [eqv_rows]; exact h
end
end
section
/-- stands below, or in the ledger -/
noncomputable def Kept (h₀ : Heap) (nw : List (Addr × Obj)) (a : Addr) (o : Obj) : Prop := h₀.get? a = some o ∨ (a, o) ∈ nw
theorem Kept.get {h₀ h : Heap} {L a : Addr} {m : Str → Option Value} {nw : List (Addr × Obj)} {o : Obj} (k : Kept h₀ nw a o) (F : Fr h₀ L h m) (N : News h₀ L h nw) : h.get? a = some o := k.elim (fun q => F.keep _ _ q) fun q => (N _ q).1
theorem Kept.mono {h₀ : Heap} {nw nw' : List (Addr × Obj)} {a : Addr} {o : Obj} (k : Kept h₀ nw a o) (hs : ∀ q ∈ nw, q ∈ nw') : Kept h₀ nw' a o := k.imp id fun q => hs _ q
/-- the rows of a list that is kept -/
noncomputable def RowsK (h₀ : Heap) (nw : List (Addr × Obj)) (its : Array Value) (rows : List (Str × Str)) : Prop :=
  its.size = rows.length ∧ ∀ (i : Nat) (kv : Str × Str), rows[i]? = some kv → ∃ r t1 t2, its[i]? = some (Value.ref r) ∧ Kept h₀ nw r (tupO [.str kv.1 t1, .str kv.2 t2])
theorem RowsK.mono {h₀ : Heap} {nw nw' : List (Addr × Obj)} {its : Array Value} {rows : List (Str × Str)} (k : RowsK h₀ nw its rows) (hs : ∀ q ∈ nw, q ∈ nw') : RowsK h₀ nw' its rows :=
  ⟨k.1, fun i kv e => by obtain ⟨r, t1, t2, e1, e2⟩ := k.2 i kv e; exact ⟨r, t1, t2, e1, e2.mono hs⟩⟩
theorem Kept.src {h₀ : Heap} {nw : List (Addr × Obj)} {a : Addr} {its : Array Value} {e : Nat} (k : Kept h₀ nw a (lstO its e)) : LCg.SrcAt h₀ a its nw := k.elim (fun q => .inl ⟨_, q, rfl, _, rfl⟩) fun q => .inr ⟨_, q, rfl, _, rfl⟩
theorem comp_tup_end {h₀ h' : Heap} {L I' C D T R : Addr} {m : Str → Option Value} {s₁ : Shared} {oI oC oD oT : Obj} {b1 b2 b3 b4 : Addr × Obj} {rest₂ : List (Addr × Obj)} {its : Array Value} {P : Value → List (Addr × Obj) → Prop} {y : Value} {tk : Nat}
    (F : Fr h₀ L h' m) (N : News h₀ L h' ((T, oT) :: (I', oI) :: (C, oC) :: (D, oD) :: b1 :: b2 :: b3 :: b4 :: rest₂)) (hT : @LT.lt Nat _ I' T ∧ @LT.lt Nat _ C T ∧ @LT.lt Nat _ D T) (off : LCg.Off3 I' C D (b1 :: b2 :: b3 :: b4 :: rest₂)) (hS : LCg.SrcAt h₀ R its (b1 :: b2 :: b3 :: b4 :: rest₂))
    (r : P y (b1 :: b2 :: b3 :: b4 :: (T, oT) :: rest₂)) : LCg.CompEnd h₀ L m s₁ I' oI C oC D oD (LCg.SrcAt h₀ R its) P y { s₁ with heap := h', toks := tk } := by
  refine LCg.CompEnd.intro F N (b1 :: b2 :: b3 :: b4 :: (T, oT) :: rest₂) ?_ ⟨off.1, off.2.1, off.2.2.1, off.2.2.2.1, ⟨Nat.ne_of_gt hT.1, Nat.ne_of_gt hT.2.1, Nat.ne_of_gt hT.2.2⟩, off.2.2.2.2⟩ ?_ r
  · intro q hq
    simp only [List.mem_cons] at hq ⊢
    rcases hq with q | q | q | q | q | q | q | q | q <;> simp [q]
  · exact hS.imp id fun ⟨o, q, r⟩ => ⟨o, by
      simp only [List.mem_cons] at q ⊢
      rcases q with q | q | q | q | q <;> simp [q], r⟩
theorem list_ne2 {h : Heap} {a P r : Addr} {ys avs : List Value} {xs : List Str} {e ea : Nat} (ha : h.get? a = some (lstO (ys ++ [Value.ref r]).toArray e)) (hP : h.get? P = some (lstO avs.toArray ea)) (hs : Strs avs xs) : a ≠ P := by
  rintro rfl
  rw [ha] at hP
  have e1 : (ys ++ [Value.ref r]).toArray = avs.toArray := (Data.seq.inj (congrArg Obj.data (Option.some.inj hP))).1
  have e2 : ys ++ [Value.ref r] = avs := by simpa using e1
  have e3 := congrArg (fun l => l.map strOf) e2
  have e4 : (ys ++ [Value.ref r]).map strOf = xs.map some := e3.trans hs
  rw [List.map_append] at e4
  have : (none : Option Str) ∈ xs.map some := by rw [← e4]; simp [strOf]
  simp at this
theorem cell_ne {h : Heap} {a c : Addr} {o oc : Obj} {v : Option Value} (ha : h.get? a = some o) (hc : h.get? c = some oc) (hd : oc.data = .cell v) (hn : ∀ v, o.data ≠ .cell v) : a ≠ c := by
  rintro rfl
  rw [ha] at hc; cases hc
  exact hn v hd
/-- the plain walk of one act -/
noncomputable def wlk (st : List (Str × Str) × List Str) (a : Act) : List (Str × Str) × List Str :=
  let held := (st.1.filter fun r => low r.1 == low a.nm).map (·.2)
  let rows₁ := if a.deed = "set" ∨ a.deed = "drop" then st.1.filter fun r => low r.1 != low a.nm else st.1
  let ans₁ := if a.deed = "default" then st.2 ++ [(held ++ [sg a.mode 3]).headD ""] else st.2
  let rows₂ := if a.deed = "set" ∨ a.deed = "add" ∨ (a.deed = "default" ∧ held = []) then rows₁ ++ [(a.nm, sg a.mode 3)] else rows₁
  (rows₂, ans₁)
theorem wlk_set (st : List (Str × Str) × List Str) (nm : Str) (mode : Int) : wlk st ⟨"set", nm, mode⟩ = ((st.1.filter fun r => low r.1 != low nm) ++ [(nm, sg mode 3)], st.2) := by
  unfold wlk
  simp only [true_or, if_true]
  rw [if_neg (by decide)]
theorem wlk_add (st : List (Str × Str) × List Str) (nm : Str) (mode : Int) : wlk st ⟨"add", nm, mode⟩ = (st.1 ++ [(nm, sg mode 3)], st.2) := by
  unfold wlk
  simp only [true_or, or_true, if_true]
  rw [if_neg (by decide), if_neg (by decide)]
theorem wlk_drop (st : List (Str × Str) × List Str) (nm : Str) (mode : Int) : wlk st ⟨"drop", nm, mode⟩ = (st.1.filter fun r => low r.1 != low nm, st.2) := by
  unfold wlk
  simp only [or_true, if_true]
  have e1 : ¬ (("drop" : Str) = "set") := by decide
  have e2 : ¬ (("drop" : Str) = "add") := by decide
  have e3 : ¬ (("drop" : Str) = "default") := by decide
  simp only [e1, e2, e3, false_or, false_and, if_false]
theorem wlk_default (st : List (Str × Str) × List Str) (nm : Str) (mode : Int) : wlk st ⟨"default", nm, mode⟩ = (if (st.1.filter fun r => low r.1 == low nm).map (·.2) = [] then st.1 ++ [(nm, sg mode 3)] else st.1, st.2 ++ [((st.1.filter fun r => low r.1 == low nm).map (·.2) ++ [sg mode 3]).headD ""]) := by
  unfold wlk
  simp only [if_true, true_and]
  have e1 : ¬ (("default" : Str) = "set") := by decide
  have e2 : ¬ (("default" : Str) = "add") := by decide
  have e3 : ¬ (("default" : Str) = "drop") := by decide
  simp only [e1, e2, e3, false_or, if_false]
theorem wlk_names {st : List (Str × Str) × List Str} {a : Act} (ha : a.nm ∈ NM) (hs : okS (sg a.mode 3)) (h : ∀ kv ∈ st.1, kv.1 ∈ NM ∧ okS kv.2) : ∀ kv ∈ (wlk st a).1, kv.1 ∈ NM ∧ okS kv.2 := by
  have h1 : ∀ kv ∈ (if a.deed = "set" ∨ a.deed = "drop" then st.1.filter fun r => low r.1 != low a.nm else st.1), kv.1 ∈ NM ∧ okS kv.2 := by
    split
    · exact fun kv q => h kv (List.mem_filter.mp q).1
    · exact h
  intro kv hkv
  have hkv : kv ∈ (if a.deed = "set" ∨ a.deed = "add" ∨ (a.deed = "default" ∧ (st.1.filter fun r => low r.1 == low a.nm).map (·.2) = []) then (if a.deed = "set" ∨ a.deed = "drop" then st.1.filter fun r => low r.1 != low a.nm else st.1) ++ [(a.nm, sg a.mode 3)] else (if a.deed = "set" ∨ a.deed = "drop" then st.1.filter fun r => low r.1 != low a.nm else st.1)) := hkv
  split at hkv
  · rcases List.mem_append.mp hkv with q | q
    · exact h1 kv q
    · rw [List.mem_singleton.mp q]; exact ⟨ha, hs⟩
  · exact h1 kv hkv
theorem off_push {h₀ h' : Heap} {L I P Dn T : Addr} {o oc oT : Obj} {avs ys : List Value} {xs : List Str} {ea e : Nat} {v : Option Value} {rest : List (Addr × Obj)} {vt : Array Value} {nt l i : Nat} (N : News h₀ L h' ((I, o) :: (P, lstO avs.toArray ea) :: (L + 1, oc) :: (Dn, lstO (ys ++ [Value.ref T]).toArray e) :: (T, oT) :: rest))
    (hs : Strs avs xs) (hoc : oc.data = .cell v) (hT : oT.cls = .type "tuple" ∧ oT.data = .seq vt nt) (hio : IterO o l i) (hoff : ∀ q ∈ rest, q.1 ≠ P ∧ q.1 ≠ L + 1 ∧ q.1 ≠ I) (hPI : P ≠ I) (hCI : L + 1 ≠ I) :
    (∀ q ∈ (P, lstO avs.toArray ea) :: (L + 1, oc) :: (Dn, lstO (ys ++ [Value.ref T]).toArray e) :: (T, oT) :: rest, q.1 ≠ I) ∧ ∀ q ∈ (Dn, lstO (ys ++ [Value.ref T]).toArray e) :: (T, oT) :: rest, q.1 ≠ P ∧ q.1 ≠ L + 1 := by
  have nI := (N _ (List.Mem.head _)).1
  have nP := (N _ (List.Mem.tail _ (List.Mem.head _))).1
  have nC := (N _ (List.Mem.tail _ (List.Mem.tail _ (List.Mem.head _)))).1
  have nD := (N _ (List.Mem.tail _ (List.Mem.tail _ (List.Mem.tail _ (List.Mem.head _))))).1
  have nT := (N _ (List.Mem.tail _ (List.Mem.tail _ (List.Mem.tail _ (List.Mem.tail _ (List.Mem.head _)))))).1
  refine ⟨fun q hq => ?_, fun q hq => ?_⟩
  · rcases List.mem_cons.mp hq with rfl | hq
    · exact hPI
    · rcases List.mem_cons.mp hq with rfl | hq
      · exact hCI
      · rcases List.mem_cons.mp hq with rfl | hq
        · exact get_ne nD nI (by rw [hio.1]; simp)
        · rcases List.mem_cons.mp hq with rfl | hq
          · exact get_ne nT nI (by rw [hio.1, hT.1]; simp)
          · exact (hoff q hq).2.2
  · rcases List.mem_cons.mp hq with rfl | hq
    · exact ⟨list_ne2 nD nP hs, cell_ne nD nC hoc (by intro _ q; cases q)⟩
    · rcases List.mem_cons.mp hq with rfl | hq
      · exact ⟨get_ne nT nP (by rw [hT.1]; simp), cell_ne nT nC hoc (by intro _ q; rw [hT.2] at q; cases q)⟩
      · exact ⟨(hoff q hq).1, (hoff q hq).2.1⟩
theorem rowsK_of {h₀ : Heap} {nw : List (Addr × Obj)} {ys : List Value} {rows : List (Str × Str)} (H : All2 (fun v (kv : Str × Str) => ∃ r t1 t2, v = Value.ref r ∧ Kept h₀ nw r (tupO [.str kv.1 t1, .str kv.2 t2])) ys rows) : RowsK h₀ nw ys.toArray rows := by
  refine ⟨by simpa using H.length, fun i kv e => ?_⟩
  obtain ⟨x, e1, r, t1, t2, rfl, e2⟩ := H.get i kv e
  exact ⟨r, t1, t2, by simpa using e1, e2⟩
theorem RowsK.push {h₀ : Heap} {nw : List (Addr × Obj)} {its : Array Value} {rows : List (Str × Str)} {r : Addr} {k v : Str} {t1 t2 : Tok} (H : RowsK h₀ nw its rows) (hT : Kept h₀ nw r (tupO [.str k t1, .str v t2])) : RowsK h₀ nw (its.push (.ref r)) (rows ++ [(k, v)]) := by
  refine ⟨by simp [H.1], fun i kv e => ?_⟩
  by_cases hi : i < rows.length
  · rw [List.getElem?_append_left hi] at e
    obtain ⟨r, t1, t2, e1, e2⟩ := H.2 i kv e
    refine ⟨r, t1, t2, ?_, e2⟩
    rw [Array.getElem?_push, if_neg (by rw [H.1]; omega)]; exact e1
  · have hlt := (List.getElem?_eq_some_iff.mp e).1
    rw [List.length_append, List.length_singleton] at hlt
    obtain rfl : i = rows.length := by omega
    rw [List.getElem?_append_right (Nat.le_refl _), Nat.sub_self] at e
    obtain rfl : (k, v) = kv := by simpa using e
    exact ⟨r, t1, t2, by rw [Array.getElem?_push, if_pos H.1.symm], hT⟩
theorem rowsK_pushL {h₀ : Heap} {nw : List (Addr × Obj)} {its its' : Array Value} {rows : List (Str × Str)} {r : Addr} {k v : Str} {t1 t2 : Tok} (H : RowsK h₀ nw its rows) (hT : Kept h₀ nw r (tupO [.str k t1, .str v t2])) (e : its' = its.push (.ref r)) : RowsK h₀ nw its' (rows ++ [(k, v)]) := e ▸ H.push hT
theorem head_strs {hys : List Value} {xs : List Str} {x : Str} {t : Tok} (h : Strs hys xs) : ∃ t', (hys ++ [Value.str x t])[0]? = some (.str ((xs ++ [x]).headD "") t') := by
  cases xs with
  | nil =>
    cases hys with
    | nil => exact ⟨t, rfl⟩
    | cons y r => simp [Strs] at h
  | cons y r =>
    cases hys with
    | nil => simp [Strs] at h
    | cons v q =>
      unfold Strs at h
      rw [List.map_cons, List.map_cons] at h
      obtain ⟨h1, _⟩ := List.cons.inj h
      cases v with
      | str z u => cases h1; exact ⟨u, rfl⟩
      | _ => cases h1
theorem nwpush {h₀ h' : Heap} {L : Addr} {x1 a b io pp cc : Addr × Obj} {tail rest : List (Addr × Obj)} (N : News h₀ L h' (a :: x1 :: b :: tail)) (hs : ∀ q ∈ io :: pp :: cc :: rest, q ∈ tail) : News h₀ L h' (io :: pp :: cc :: a :: b :: rest) := by
  intro q hq
  refine N q ?_
  simp only [List.mem_cons] at hq ⊢
  rcases hq with q' | q' | q' | q' | q' | q'
  · exact .inr (.inr (.inr (hs q (by simp [q']))))
  · exact .inr (.inr (.inr (hs q (by simp [q']))))
  · exact .inr (.inr (.inr (hs q (by simp [q']))))
  · exact .inl q'
  · exact .inr (.inr (.inl q'))
  · exact .inr (.inr (.inr (hs q (by simp [q']))))
section
variable {w : World} {p : Program} {loose : List Str} {mg mb : Str → Option Value}
theorem kw18 : True := by
  (k_with "exec For Tuple Name cons nil" => refine hold ?_)
  trivial
theorem kw19 : True := by
  (k_with "subscriptTail" => refine hold ?_)
  trivial
theorem kw20 : True := by
  (k_with "call builtin:list.append" => refine hold ?_)
  trivial
theorem kw21 : True := by
  (k_with "eval ListComp" => refine hold ?_)
  trivial
theorem kw22 : True := by
  (k_with "exec Assign cons ListComp" => refine hold ?_)
  trivial
theorem kw23 : True := by
  (k_with "compareOp Eq ref ref" => refine hold ?_)
  trivial
theorem walked_c {A : Around} {Q E : Value → Shared → Prop} {s : Shared} {R dr : Addr} {its aits : Array Value} {e ed : Nat} {rows : List (Str × Str)} {acts : List Act} (TW : Tops w p loose mg mb) (KX : (KK w.params).In s.heap) (RA : Room 2 A)
    (hR : s.heap.get? R = some (lstO its e)) (hRw : Rows s.heap its rows) (ha : ∀ a ∈ acts, a.ok) (hdr : s.heap.get? dr = some (lstO aits ed)) (hA : Acts s.heap aits acts) (hk : ∀ kv ∈ rows, kv.1 ∈ NM ∧ okS kv.2) (hz : rows.length + acts.length ≤ 800)
    (hQ : ∀ S R' An its' e' avs ea h' tk', Up s.heap h' → h'.get? S = some (tupO [.ref R', .ref An]) → h'.get? R' = some (lstO its' e') → Rows h' its' (acts.foldl wlk (rows, [])).1 → h'.get? An = some (lstO avs ea) → Strs avs.toList (acts.foldl wlk (rows, [])).2 → Q (.ref S) { s with heap := h', toks := tk' }) :
    wpAny (model PW w) A (call (.ref 268) [.ref R, .ref dr]) Q E s := by
  refine enterCc (n := 1) [] TW KX nil_hide RA (by k_is) (by k_is) (kp_binds KX (fun _ => rfl)) rfl (by decide +kernel) ?_
  intro h₀ L h₁ tk₁ cells F N Y X T₀ hup hdn hlt R₁
  k_cells Y
  (try simp only [List.cons_append, List.nil_append] at N)
  (try dsimp only)
  k_steps
  unfold Hold
  refine wpAny_For ?_
  k_steps
  (rename Fr _ _ _ _ => F)
  (rename News _ _ _ _ => N)
  have gR : h₀.get? R = some (lstO its e) := hup R _ nil_ne hR
  have gd : h₀.get? dr = some (lstO aits ed) := hup dr _ nil_ne hdr
  have lD : h₀.IsList dr aits := ⟨_, gd, rfl, _, rfl⟩
  have rw₀ : RowsK h₀ [] its rows := ⟨hRw.1, fun i kv e => by obtain ⟨r, t1, t2, e1, e2⟩ := hRw.2 i kv e; exact ⟨r, t1, t2, e1, .inl (hup r _ nil_ne e2)⟩⟩
  have nP := N _ (List.Mem.head _)
  have nC := N _ (List.Mem.tail _ (List.Mem.head _))
  rename_i oc₀ dc₀ P hhA l1 hhB
  have hPC : P ≠ L + 1 := Nat.ne_of_gt l1
  refine iterN (its := aits) (fun i m nw => ∃ avs ea oc R its' e' rest, nw = (P, lstO (List.toArray avs) ea) :: (L + 1, oc) :: rest ∧ (∃ v, oc.data = .cell v) ∧ (∀ q ∈ rest, q.1 ≠ P ∧ q.1 ≠ L + 1) ∧ m "rows" = some (.ref R) ∧ Kept h₀ rest R (lstO its' e') ∧ RowsK h₀ rest its' ((acts.take i).foldl wlk (rows, [])).1 ∧ Strs avs ((acts.take i).foldl wlk (rows, [])).2 ∧ (∀ kv ∈ ((acts.take i).foldl wlk (rows, [])).1, kv.1 ∈ NM ∧ okS kv.2) ∧ its'.size ≤ its.size + i ∧ avs.length ≤ i ∧ Agree ["rows", "deed", "mode", "held"] m _) R₁.handled F N ⟨[], 0, oc₀, R, its, e, [], rfl, ⟨_, dc₀⟩, (fun _ h => nomatch h), rfl, .inl gR, rw₀, rfl, hk, Nat.le_refl _, Nat.le_refl _, Agree.rfl⟩ ?_ ?_ ?_
  · rintro i m nw h _ u _
    exact lD.at fun o e => u _ o e
  · rintro I i v m nw h tk o hlI hv ⟨avs, ea, oc, R', its', e', rest, rfl, ⟨vc, hoc⟩, hoff, hmR, kR, kRw, hstr, hnm, hz₁, hz₂, hag⟩ hio F N hI
    rw [hag.eq1 hmR] at F
    simp only [but] at F
    replace F : Fr h₀ L h _ := F
    replace N : News h₀ L h _ := N
    have hi : i < acts.length := by
      have := (Array.getElem?_eq_some_iff.mp hv).1
      rw [hA.1] at this; exact this
    obtain ⟨r, t1, t2, t3, e1, e2⟩ := hA.2 i acts[i] (List.getElem?_eq_getElem hi)
    rw [e1] at hv
    cases hv
    have iT : IsTup h₀ r #[.str acts[i].deed t1, .str acts[i].nm t2, .int acts[i].mode t3] := isTup_of (hup r _ nil_ne e2)
    have haI := ha _ (List.getElem_mem hi)
    (try dsimp only)
    have hCL : L + 1 ≠ L := Nat.succ_ne_self L
    refine assign_Tuple_tuple R₁.handled (isTup_of (F.keep _ _ (hup r _ nil_ne e2))) rfl rfl fun h₅ he => ?_
    have he' : ∀ b o, h.get? b = some o → h₅.get? b = some o := fun b o e => he b o (Nat.ne_of_lt (Heap.lt_size e)) e
    have F := F.keeps he'
    have N := N.grown he'
    refine assignInOrder_cons (wpAny_assign_Name (wpAny_storeName_local (m := _) rfl F.ns fun h₆ hn₆ hs₆ => ?_))
    have N : News h₀ L h₆ _ := fun p hp => ⟨(hs₆.2 _ (N p hp).2.1).trans (N p hp).1, (N p hp).2⟩
    have F := F.set hn₆ hs₆
    have nC' := N (L + 1, oc) (List.Mem.tail _ (List.Mem.tail _ (List.Mem.head _)))
    refine assignInOrder_cons (wpAny_assign_Name (wpAny_storeName_cell (c := L + 1) (v₀ := vc) rfl rfl rfl ⟨oc, nC'.1, hoc⟩ fun h₇ hc₇ hs₇ => ?_))
    obtain ⟨oc₇, gc₇, dc₇⟩ := hc₇
    have N : News h₀ L h₇ ((I, o) :: (P, lstO avs.toArray ea) :: (L + 1, oc₇) :: rest) := fun p hp => by
      rcases List.mem_cons.mp hp with rfl | hp
      · exact ⟨(hs₇.2 _ (Ne.symm (hI (L + 1, oc) (List.Mem.tail _ (List.Mem.head _))))).trans (N (I, o) (List.Mem.head _)).1, (N (I, o) (List.Mem.head _)).2⟩
      · rcases List.mem_cons.mp hp with rfl | hp
        · exact ⟨(hs₇.2 _ hPC).trans (N _ (List.Mem.tail _ (List.Mem.head _))).1, (N _ (List.Mem.tail _ (List.Mem.head _))).2⟩
        · rcases List.mem_cons.mp hp with rfl | hp
          · exact ⟨gc₇, nC'.2⟩
          · have z := N p (List.mem_cons_of_mem _ (List.mem_cons_of_mem _ (List.mem_cons_of_mem _ hp)))
            exact ⟨(hs₇.2 _ (hoff p hp).2).trans z.1, z.2⟩
    have F := F.change hs₇ hCL nC'.2.2
    refine assignInOrder_cons (wpAny_assign_Name (wpAny_storeName_local (m := _) rfl F.ns fun h₈ hn₈ hs₈ => ?_))
    have N : News h₀ L h₈ _ := fun p hp => ⟨(hs₈.2 _ (N p hp).2.1).trans (N p hp).1, (N p hp).2⟩
    have F := F.set hn₈ hs₈
    refine assignInOrder_nil ?_
    replace F : Fr h₀ L h₈ _ := F
    replace N : News h₀ L h₈ _ := N
    clear nC' hs₆ hn₆ hs₇ hs₈ hn₈ he he' gc₇
    refine wpAny_gen fun QS ES hQS hES => ?_
    (try dsimp only)
    k_steps
    unfold Hold
    obtain ⟨st, hst⟩ : ∃ st, st = (acts.take i).foldl wlk (rows, []) := ⟨_, rfl⟩
    rw [← hst] at kRw hstr hnm
    have up3 : ∀ q ∈ rest, q ∈ (I, o) :: (P, lstO avs.toArray ea) :: (L + 1, oc₇) :: rest := fun q hq => List.mem_cons_of_mem _ (List.mem_cons_of_mem _ (List.mem_cons_of_mem _ hq))
    have hszR : its'.size ≤ 1000 := by have := hRw.1; omega
    refine Assign_ListComp_Q F rfl (by with_unfolding_all rfl) R₁.handled (by with_unfolding_all rfl) (by decide) rfl (by decide) rfl rfl (by decide) rfl rfl ?_
    k_steps
    refine ⟨R', its', _, rfl, F, N, (kR.mono up3).src, hszR, (fun j ys nw => nw = _ ∧ Strs ys (((st.1.take j).filter fun r => low r.1 == low acts[i].nm).map (·.2))), ⟨rfl, rfl⟩, ?_⟩
    rintro s₂ ⟨g, rfl⟩
    refine ⟨?_, ?_⟩
    · rintro j v ys nw hv ⟨rfl, hinv⟩ hS
      have hj : j < st.1.length := by
        have := (Array.getElem?_eq_some_iff.mp hv).1
        rw [kRw.1] at this; exact this
      obtain ⟨r₂, u1, u2, f1, f2⟩ := kRw.2 j st.1[j] (List.getElem?_eq_getElem hj)
      rw [f1] at hv
      cases hv
      refine ⟨r₂, _, _, rfl, f2.mono up3, ?_⟩
      intro I' oI C oC D m₂ h tk E' hNs hm1 hm2 F N off ne
      (try dsimp only)
      k_steps
      refine lower_c (Frag.In.keeps X F.keep) R₁ (hnm _ (List.getElem_mem hj)).1 ?_
      intro h₅ tk₅ t₅ up₅
      have F := F.keeps up₅
      have N := N.grown up₅
      (try dsimp only)
      k_steps
      refine lower_c (Frag.In.keeps X F.keep) R₁ haI.2.1 ?_
      intro h₅ tk₅ t₅ up₅
      have F := F.keeps up₅
      have N := N.grown up₅
      (try dsimp only)
      k_steps
      · (rename _ = true => hb)
        refine LCg.CompEnd.intro F N _ (fun p hp => hp) off hS ⟨rfl, ?_⟩
        rw [filter_snoc hj, if_pos hb, List.map_append]
        exact hinv.snoc
      · (rename _ = false => hb)
        refine LCg.CompEnd.intro F N _ (fun p hp => hp) off hS ⟨rfl, ?_⟩
        rw [filter_snoc hj, if_neg (by rw [hb]; exact Bool.false_ne_true), List.append_nil]
        exact hinv
    rintro hys nw ⟨rfl, hheld⟩ Dh h tk F N offh
    rw [kRw.1, List.take_length] at hheld
    replace F : Fr h₀ L h _ := F
    replace N : News h₀ L h _ := N
    generalize hact : acts[i] = act at *
    obtain ⟨deed, nm, mode⟩ := act
    obtain ⟨hd, hnmA, hm1, hm2⟩ := haI
    dsimp only at hd hnmA hm1 hm2 iT F N hheld
    have hsok : okS (sg mode 3) := by rw [← signs_sg hm1 hm2]; exact signs_ok mode
    simp only [List.mem_cons, List.not_mem_nil, or_false] at hd
    rcases hd with rfl | rfl | rfl | rfl
    · (try dsimp only)
      k_steps
      unfold Hold
      (rename Fr _ _ _ _ => F)
      (rename News _ _ _ _ => N)
      have N := newsTail N
      have up4 : ∀ q ∈ rest, q ∈ (Dh, LCg.lst hys) :: (I, o) :: (P, lstO avs.toArray ea) :: (L + 1, oc₇) :: rest := fun q hq => List.mem_cons_of_mem _ (up3 q hq)
      refine Assign_ListComp_Q F rfl (by with_unfolding_all rfl) R₁.handled (by with_unfolding_all rfl) (by decide) rfl (by decide) rfl rfl (by decide) rfl rfl ?_
      k_steps
      refine ⟨R', its', _, rfl, F, N, (kR.mono up4).src, hszR, (fun j ys nw => ∃ rest₂, nw = (Dh, LCg.lst hys) :: (I, o) :: (P, lstO avs.toArray ea) :: (L + 1, oc₇) :: rest₂ ∧ (∀ q ∈ rest, q ∈ rest₂) ∧ (∀ q ∈ rest₂, q.1 ≠ P ∧ q.1 ≠ L + 1 ∧ q.1 ≠ I) ∧ All2 (fun v (kv : Str × Str) => ∃ r t1 t2, v = Value.ref r ∧ (r, tupO [.str kv.1 t1, .str kv.2 t2]) ∈ rest₂) ys ((st.1.take j).filter fun r => low r.1 != low nm)), ⟨rest, rfl, fun _ h => h, fun q hq => ⟨(hoff q hq).1, (hoff q hq).2, hI q (List.mem_cons_of_mem _ (List.mem_cons_of_mem _ hq))⟩, .nil⟩, ?_⟩
      rintro s₂ ⟨g, rfl⟩
      refine ⟨?_, ?_⟩
      · rintro j v ys nw hv ⟨rest₂, rfl, hsub, hoff₂, hinv⟩ hS
        have hj : j < st.1.length := by
          have := (Array.getElem?_eq_some_iff.mp hv).1
          rw [kRw.1] at this; exact this
        obtain ⟨r₂, u1, u2, f1, f2⟩ := kRw.2 j st.1[j] (List.getElem?_eq_getElem hj)
        rw [f1] at hv
        cases hv
        refine ⟨r₂, _, _, rfl, f2.mono (fun q hq => List.mem_cons_of_mem _ (List.mem_cons_of_mem _ (List.mem_cons_of_mem _ (List.mem_cons_of_mem _ (hsub q hq))))), ?_⟩
        intro I' oI C oC D m₂ h tk E' hNs hm1 hm2 F N off ne
        (try dsimp only)
        k_steps
        refine lower_c (Frag.In.keeps X F.keep) R₁ (hnm _ (List.getElem_mem hj)).1 ?_
        intro h₅ tk₅ t₅ up₅
        have F := F.keeps up₅
        have N := N.grown up₅
        (try dsimp only)
        k_steps
        refine lower_c (Frag.In.keeps X F.keep) R₁ hnmA ?_
        intro h₅ tk₅ t₅ up₅
        have F := F.keeps up₅
        have N := N.grown up₅
        (try dsimp only)
        k_steps
        · (rename _ = true => hb)
          (rename Fr _ _ _ _ => F)
          (rename News _ _ _ _ => N)
          rename_i T hhT l1
          refine comp_tup_end F N ⟨l1.1, l1.2.1, l1.2.2.1⟩ off hS ⟨_ :: rest₂, rfl, fun q hq => List.mem_cons_of_mem _ (hsub q hq), ?_, ?_⟩
          · intro q hq
            rcases List.mem_cons.mp hq with rfl | hq
            · exact ⟨Nat.ne_of_gt l1.2.2.2.2.2.1, Nat.ne_of_gt l1.2.2.2.2.2.2.1, Nat.ne_of_gt l1.2.2.2.2.1⟩
            · exact hoff₂ q hq
          · rw [filter_snoc hj, if_pos hb]
            exact (hinv.mono fun v kv ⟨r, t1, t2, q1, q2⟩ => ⟨r, t1, t2, q1, List.mem_cons_of_mem _ q2⟩).snoc ⟨T, _, _, rfl, List.Mem.head _⟩
        · (rename _ = false => hb)
          refine LCg.CompEnd.intro F N _ (fun p hp => hp) off hS ⟨rest₂, rfl, hsub, hoff₂, ?_⟩
          rw [filter_snoc hj, if_neg (by rw [hb]; exact Bool.false_ne_true), List.append_nil]
          exact hinv
      rintro rys nw ⟨rest₂, rfl, hsub, hoff₂, hrows⟩ Dr h tk F N offr
      rw [kRw.1, List.take_length] at hrows
      replace F : Fr h₀ L h _ := F
      replace N : News h₀ L h _ := N
      (try dsimp only)
      k_steps
      (rename Fr _ _ _ _ => F)
      (rename News _ _ _ _ => N)
      refine signs_c TW (Frag.In.keeps X F.keep) R₁ ?_
      intro h₅ tk₅ t₅ up₅
      have F := F.keeps up₅
      have N := newsTail (N.grown up₅)
      have lenr : (LCg.lst rys).data = .seq rys.toArray rys.length := rfl
      have szr : rys.toArray.size ≤ 900 := by
        have h1 := hrows.length
        have h2 := List.length_filter_le (fun r : Str × Str => low r.1 != low nm) st.1
        have h3 := kRw.1
        have h4 := hRw.1
        rw [List.size_toArray]; omega
      (try dsimp only)
      k_steps
      (rename Fr _ _ _ _ => F)
      (rename News _ _ _ _ => N)
      have hfold : (acts.take (i + 1)).foldl wlk (rows, []) = wlk st ⟨"set", nm, mode⟩ := by
        rw [← List.take_append_getElem hi, List.foldl_append, ← hst, hact]; rfl
      have hlr := hrows.length
      have hlf := List.length_filter_le (fun r : Str × Str => low r.1 != low nm) st.1
      have hl4 := kRw.1
      have N := nwpush (io := (I, o)) (pp := (P, lstO avs.toArray ea)) (cc := (L + 1, oc₇)) (rest := rest₂) N (fun q hq => List.mem_cons_of_mem _ (List.mem_cons_of_mem _ hq))
      have off := off_push N hstr dc₇ ⟨rfl, rfl⟩ hio hoff₂ (hI (P, lstO avs.toArray ea) (List.Mem.head _)) (hI (L + 1, oc) (List.Mem.tail _ (List.Mem.head _)))
      subst hQS hES
      refine ⟨_, _, _, _, rfl, F, N, off.1, avs, ea, oc₇, _, _, _, _, rfl, ⟨_, dc₇⟩, off.2, rfl, .inr (List.Mem.head _), ?_, ?_, ?_, ?_, ?_, ?_⟩
      · rw [hfold, wlk_set]
        have kk := rowsK_of (h₀ := h₀) (nw := rest₂) (hrows.mono fun v kv ⟨r, t1, t2, q1, q2⟩ => ⟨r, t1, t2, q1, .inr q2⟩)
        exact rowsK_pushL (kk.mono fun q hq => List.mem_cons_of_mem _ (List.mem_cons_of_mem _ hq)) (.inr (List.Mem.tail _ (List.Mem.head _))) (by simp)
      · rw [hfold, wlk_set]; exact hstr
      · rw [hfold]; exact wlk_names hnmA hsok hnm
      · rw [List.size_toArray, List.length_append, List.length_singleton]; omega
      · omega
      · intro y hy
        simp only [List.mem_cons, List.not_mem_nil, or_false, not_or] at hy
        obtain ⟨a1, a2, a3, a4⟩ := hy
        simp only [if_neg a1, if_neg a2, if_neg a3, if_neg a4]
    · (try dsimp only)
      k_steps
      (rename Fr _ _ _ _ => F)
      (rename News _ _ _ _ => N)
      refine signs_c TW (Frag.In.keeps X F.keep) R₁ ?_
      intro h₅ tk₅ t₅ up₅
      have F := F.keeps up₅
      have N := newsTail (newsTail (newsTail (N.grown up₅)))
      (try dsimp only)
      k_steps
      (rename Fr _ _ _ _ => F)
      (rename News _ _ _ _ => N)
      have hl4 := kRw.1
      have hl5 := hRw.1
      refine kmk_add_lit F N ⟨_, (kR.mono fun q hq => List.mem_cons_of_mem _ (List.mem_cons_of_mem _ (up3 q hq))).get F N, rfl, _, rfl⟩ (News.isList N (List.Mem.head _)) rfl ?_ (by rw [sizeLine_eq, Array.length_toList]; simp; omega)
      intro Dn h₉ F N ltn
      replace F : Fr h₀ L h₉ _ := F
      replace N : News h₀ L h₉ _ := N
      (try dsimp only)
      k_steps
      (rename Fr _ _ _ _ => F)
      (rename News _ _ _ _ => N)
      have hfold : (acts.take (i + 1)).foldl wlk (rows, []) = wlk st ⟨"add", nm, mode⟩ := by
        rw [← List.take_append_getElem hi, List.foldl_append, ← hst, hact]; rfl
      have N := nwpush (io := (I, o)) (pp := (P, lstO avs.toArray ea)) (cc := (L + 1, oc₇)) (rest := rest) N (fun q hq => hq)
      have off := off_push N hstr dc₇ ⟨rfl, rfl⟩ hio (fun q hq => ⟨(hoff q hq).1, (hoff q hq).2, hI q (List.mem_cons_of_mem _ (List.mem_cons_of_mem _ hq))⟩) (hI (P, lstO avs.toArray ea) (List.Mem.head _)) (hI (L + 1, oc) (List.Mem.tail _ (List.Mem.head _)))
      subst hQS hES
      refine ⟨_, _, _, _, rfl, F, N, off.1, avs, ea, oc₇, _, _, _, _, rfl, ⟨_, dc₇⟩, off.2, rfl, .inr (List.Mem.head _), ?_, ?_, ?_, ?_, ?_, ?_⟩
      · rw [hfold, wlk_add]
        exact rowsK_pushL (kRw.mono fun q hq => List.mem_cons_of_mem _ (List.mem_cons_of_mem _ hq)) (.inr (List.Mem.tail _ (List.Mem.head _))) (by apply Array.ext'; simp)
      · rw [hfold, wlk_add]; exact hstr
      · rw [hfold]; exact wlk_names hnmA hsok hnm
      · simp; omega
      · omega
      · intro y hy
        simp only [List.mem_cons, List.not_mem_nil, or_false, not_or] at hy
        obtain ⟨a1, a2, a3, a4⟩ := hy
        simp only [if_neg a1, if_neg a2, if_neg a3, if_neg a4]
    · (try dsimp only)
      k_steps
      unfold Hold
      (rename Fr _ _ _ _ => F)
      (rename News _ _ _ _ => N)
      have N := newsTail N
      have up4 : ∀ q ∈ rest, q ∈ (Dh, LCg.lst hys) :: (I, o) :: (P, lstO avs.toArray ea) :: (L + 1, oc₇) :: rest := fun q hq => List.mem_cons_of_mem _ (up3 q hq)
      refine Assign_ListComp_Q F rfl (by with_unfolding_all rfl) R₁.handled (by with_unfolding_all rfl) (by decide) rfl (by decide) rfl rfl (by decide) rfl rfl ?_
      k_steps
      refine ⟨R', its', _, rfl, F, N, (kR.mono up4).src, hszR, (fun j ys nw => ∃ rest₂, nw = (Dh, LCg.lst hys) :: (I, o) :: (P, lstO avs.toArray ea) :: (L + 1, oc₇) :: rest₂ ∧ (∀ q ∈ rest, q ∈ rest₂) ∧ (∀ q ∈ rest₂, q.1 ≠ P ∧ q.1 ≠ L + 1 ∧ q.1 ≠ I) ∧ All2 (fun v (kv : Str × Str) => ∃ r t1 t2, v = Value.ref r ∧ (r, tupO [.str kv.1 t1, .str kv.2 t2]) ∈ rest₂) ys ((st.1.take j).filter fun r => low r.1 != low nm)), ⟨rest, rfl, fun _ h => h, fun q hq => ⟨(hoff q hq).1, (hoff q hq).2, hI q (List.mem_cons_of_mem _ (List.mem_cons_of_mem _ hq))⟩, .nil⟩, ?_⟩
      rintro s₂ ⟨g, rfl⟩
      refine ⟨?_, ?_⟩
      · rintro j v ys nw hv ⟨rest₂, rfl, hsub, hoff₂, hinv⟩ hS
        have hj : j < st.1.length := by
          have := (Array.getElem?_eq_some_iff.mp hv).1
          rw [kRw.1] at this; exact this
        obtain ⟨r₂, u1, u2, f1, f2⟩ := kRw.2 j st.1[j] (List.getElem?_eq_getElem hj)
        rw [f1] at hv
        cases hv
        refine ⟨r₂, _, _, rfl, f2.mono (fun q hq => List.mem_cons_of_mem _ (List.mem_cons_of_mem _ (List.mem_cons_of_mem _ (List.mem_cons_of_mem _ (hsub q hq))))), ?_⟩
        intro I' oI C oC D m₂ h tk E' hNs hm1 hm2 F N off ne
        (try dsimp only)
        k_steps
        refine lower_c (Frag.In.keeps X F.keep) R₁ (hnm _ (List.getElem_mem hj)).1 ?_
        intro h₅ tk₅ t₅ up₅
        have F := F.keeps up₅
        have N := N.grown up₅
        (try dsimp only)
        k_steps
        refine lower_c (Frag.In.keeps X F.keep) R₁ hnmA ?_
        intro h₅ tk₅ t₅ up₅
        have F := F.keeps up₅
        have N := N.grown up₅
        (try dsimp only)
        k_steps
        · (rename _ = true => hb)
          (rename Fr _ _ _ _ => F)
          (rename News _ _ _ _ => N)
          rename_i T hhT l1
          refine comp_tup_end F N ⟨l1.1, l1.2.1, l1.2.2.1⟩ off hS ⟨_ :: rest₂, rfl, fun q hq => List.mem_cons_of_mem _ (hsub q hq), ?_, ?_⟩
          · intro q hq
            rcases List.mem_cons.mp hq with rfl | hq
            · exact ⟨Nat.ne_of_gt l1.2.2.2.2.2.1, Nat.ne_of_gt l1.2.2.2.2.2.2.1, Nat.ne_of_gt l1.2.2.2.2.1⟩
            · exact hoff₂ q hq
          · rw [filter_snoc hj, if_pos hb]
            exact (hinv.mono fun v kv ⟨r, t1, t2, q1, q2⟩ => ⟨r, t1, t2, q1, List.mem_cons_of_mem _ q2⟩).snoc ⟨T, _, _, rfl, List.Mem.head _⟩
        · (rename _ = false => hb)
          refine LCg.CompEnd.intro F N _ (fun p hp => hp) off hS ⟨rest₂, rfl, hsub, hoff₂, ?_⟩
          rw [filter_snoc hj, if_neg (by rw [hb]; exact Bool.false_ne_true), List.append_nil]
          exact hinv
      rintro rys nw ⟨rest₂, rfl, hsub, hoff₂, hrows⟩ Dr h tk F N offr
      rw [kRw.1, List.take_length] at hrows
      replace F : Fr h₀ L h _ := F
      replace N : News h₀ L h _ := N
      (try dsimp only)
      k_steps
      (rename Fr _ _ _ _ => F)
      (rename News _ _ _ _ => N)
      have N := newsTail N
      have hfold : (acts.take (i + 1)).foldl wlk (rows, []) = wlk st ⟨"drop", nm, mode⟩ := by
        rw [← List.take_append_getElem hi, List.foldl_append, ← hst, hact]; rfl
      have hlr := hrows.length
      have hlf := List.length_filter_le (fun r : Str × Str => low r.1 != low nm) st.1
      have hl4 := kRw.1
      have N : News h₀ L _ ((I, o) :: (P, lstO avs.toArray ea) :: (L + 1, oc₇) :: (Dr, LCg.lst rys) :: rest₂) := fun q hq => N q (by
        simp only [List.mem_cons] at hq ⊢
        rcases hq with q' | q' | q' | q' | q' <;> simp [q'])
      subst hQS hES
      refine ⟨_, _, _, _, rfl, F, N, ?_, avs, ea, oc₇, Dr, _, _, _, rfl, ⟨_, dc₇⟩, ?_, rfl, .inr (List.Mem.head _), ?_, ?_, ?_, ?_, ?_, ?_⟩
      · intro q hq
        rcases List.mem_cons.mp hq with rfl | hq
        · exact hI (P, lstO avs.toArray ea) (List.Mem.head _)
        · rcases List.mem_cons.mp hq with rfl | hq
          · exact hI (L + 1, oc) (List.Mem.tail _ (List.Mem.head _))
          · rcases List.mem_cons.mp hq with rfl | hq
            · exact Ne.symm offr.2.1
            · exact (hoff₂ q hq).2.2
      · intro q hq
        rcases List.mem_cons.mp hq with rfl | hq
        · exact ⟨Ne.symm offr.2.2.1, Ne.symm offr.2.2.2.1⟩
        · exact ⟨(hoff₂ q hq).1, (hoff₂ q hq).2.1⟩
      · rw [hfold, wlk_drop]
        have kk := rowsK_of (h₀ := h₀) (nw := rest₂) (hrows.mono fun v kv ⟨r, t1, t2, q1, q2⟩ => ⟨r, t1, t2, q1, .inr q2⟩)
        exact kk.mono fun q hq => List.mem_cons_of_mem _ hq
      · rw [hfold, wlk_drop]; exact hstr
      · rw [hfold]; exact wlk_names hnmA hsok hnm
      · rw [List.size_toArray]; omega
      · omega
      · intro y hy
        simp only [List.mem_cons, List.not_mem_nil, or_false, not_or] at hy
        obtain ⟨a1, a2, a3, a4⟩ := hy
        simp only [if_neg a1, if_neg a2, if_neg a3, if_neg a4]
    · (try dsimp only)
      k_steps
      (rename Fr _ _ _ _ => F)
      (rename News _ _ _ _ => N)
      refine signs_c TW (Frag.In.keeps X F.keep) R₁ ?_
      intro h₅ tk₅ t₅ up₅
      have F := F.keeps up₅
      have N := newsTail (N.grown up₅)
      have hl4 := kRw.1
      have hl5 := hRw.1
      have hl6 := hheld.len
      have hl7 := List.length_filter_le (fun r : Str × Str => low r.1 == low nm) st.1
      rw [List.length_map] at hl6
      have szh : hys.toArray.size ≤ 900 := by rw [List.size_toArray]; omega
      (try dsimp only)
      k_steps
      unfold Hold
      (rename Fr _ _ _ _ => F)
      (rename News _ _ _ _ => N)
      obtain ⟨tv, hv0⟩ := head_strs (x := sg mode 3) (t := t₅) hheld
      obtain ⟨x₀, hx₀⟩ : ∃ x₀ : Str, x₀ = ((st.1.filter fun r => low r.1 == low nm).map (·.2) ++ [sg mode 3]).headD "" := ⟨_, rfl⟩
      rw [← hx₀] at hv0
      refine sub_at (News.isList N (List.Mem.head _)) (by decide) (by decide) (by simpa using hv0) ?_
      (try dsimp only)
      k_steps
      unfold Hold
      refine append_to (D := P) (its := avs.toArray) (n := ea) (nw' := (Dh, LCg.lst hys) :: (I, o) :: (L + 1, oc₇) :: rest) F N (List.Mem.tail _ (List.Mem.tail _ (List.Mem.tail _ (List.Mem.tail _ (List.Mem.head _))))) ?_ (by rw [List.size_toArray]; omega) ?_
      · intro q hq
        refine ⟨?_, ?_⟩
        · simp only [List.mem_cons] at hq ⊢
          rcases hq with q' | q' | q' | q' <;> simp [q']
        · rcases List.mem_cons.mp hq with rfl | hq
          · exact Ne.symm offh.2.1
          · rcases List.mem_cons.mp hq with rfl | hq
            · exact Ne.symm (hI (P, lstO avs.toArray ea) (List.Mem.head _))
            · rcases List.mem_cons.mp hq with rfl | hq
              · exact Ne.symm hPC
              · exact (hoff q hq).1
      intro h₉ F N
      rw [List.push_toArray] at N
      have N : News h₀ L h₉ ((Dh, LCg.lst hys) :: (I, o) :: (P, lstO (avs ++ [Value.str x₀ tv]).toArray (ea + 1)) :: (L + 1, oc₇) :: rest) := fun q hq => N q (by
        simp only [List.mem_cons] at hq ⊢
        rcases hq with q' | q' | q' | q' | q' <;> simp [q'])
      replace F : Fr h₀ L h₉ _ := F
      replace N : News h₀ L h₉ _ := N
      (try dsimp only)
      k_steps
      unfold Hold
      (rename Fr _ _ _ _ => F)
      (rename News _ _ _ _ => N)
      have hfold : (acts.take (i + 1)).foldl wlk (rows, []) = wlk st ⟨"default", nm, mode⟩ := by
        rw [← List.take_append_getElem hi, List.foldl_append, ← hst, hact]; rfl
      obtain ⟨held, hhe⟩ : ∃ held : List Str, held = (st.1.filter fun r => low r.1 == low nm).map (·.2) := ⟨_, rfl⟩
      have hhok : ∀ x ∈ held, okS x := by
        intro x hx
        rw [hhe] at hx
        obtain ⟨kv, hkv, rfl⟩ := List.mem_map.mp hx
        exact (hnm kv (List.mem_filter.mp hkv).1).2
      rw [← hhe] at hheld hx₀
      have hfold' := hfold
      rw [wlk_default, ← hhe, ← hx₀] at hfold
      refine eq_nil_c (N _ (List.Mem.tail _ (List.Mem.tail _ (List.Mem.head _)))).1 hheld hhok (N _ (List.Mem.head _)).1 (by units_room) ?_
      by_cases hemp : held = []
      · rw [decide_eq_true hemp]
        rw [if_pos hemp] at hfold
        (try dsimp only)
        k_steps
        (rename Fr _ _ _ _ => F)
        (rename News _ _ _ _ => N)
        refine signs_c TW (Frag.In.keeps X F.keep) R₁ ?_
        intro h₅ tk₅ t₅ up₅
        have F := F.keeps up₅
        have N := newsTail (newsTail (newsTail (N.grown up₅)))
        (try dsimp only)
        k_steps
        (rename Fr _ _ _ _ => F)
        (rename News _ _ _ _ => N)
        refine kmk_add_lit F N ⟨_, (kR.mono fun q hq => List.mem_cons_of_mem _ (List.mem_cons_of_mem _ (List.mem_cons_of_mem _ (List.mem_cons_of_mem _ (List.mem_cons_of_mem _ hq))))).get F N, rfl, _, rfl⟩ (News.isList N (List.Mem.head _)) rfl ?_ (by rw [sizeLine_eq, Array.length_toList]; simp; omega)
        intro Dn h₉ F N ltn
        replace F : Fr h₀ L h₉ _ := F
        replace N : News h₀ L h₉ _ := N
        (try dsimp only)
        k_steps
        (rename Fr _ _ _ _ => F)
        (rename News _ _ _ _ => N)
        have N := nwpush (io := (I, o)) (pp := (P, lstO (avs ++ [Value.str x₀ tv]).toArray (ea + 1))) (cc := (L + 1, oc₇)) (rest := rest) N (fun q hq => hq)
        have off := off_push N hstr.snoc dc₇ ⟨rfl, rfl⟩ hio (fun q hq => ⟨(hoff q hq).1, (hoff q hq).2, hI q (List.mem_cons_of_mem _ (List.mem_cons_of_mem _ hq))⟩) (hI (P, lstO avs.toArray ea) (List.Mem.head _)) (hI (L + 1, oc) (List.Mem.tail _ (List.Mem.head _)))
        subst hQS hES
        refine ⟨_, _, _, _, rfl, F, N, off.1, avs ++ [.str x₀ tv], _, oc₇, _, _, _, _, rfl, ⟨_, dc₇⟩, off.2, rfl, .inr (List.Mem.head _), ?_, ?_, ?_, ?_, ?_, ?_⟩
        · rw [hfold]
          exact rowsK_pushL (kRw.mono fun q hq => List.mem_cons_of_mem _ (List.mem_cons_of_mem _ hq)) (.inr (List.Mem.tail _ (List.Mem.head _))) (by apply Array.ext'; simp)
        · rw [hfold]; exact hstr.snoc
        · rw [hfold']; exact wlk_names hnmA hsok hnm
        · simp; omega
        · rw [List.length_append, List.length_singleton]; omega
        · intro y hy
          simp only [List.mem_cons, List.not_mem_nil, or_false, not_or] at hy
          obtain ⟨a1, a2, a3, a4⟩ := hy
          simp only [if_neg a1, if_neg a2, if_neg a3, if_neg a4]
      · rw [decide_eq_false hemp]
        rw [if_neg hemp] at hfold
        (try dsimp only)
        k_steps
        have N := newsTail (newsTail (newsTail N))
        subst hQS hES
        refine ⟨_, _, _, _, rfl, F, N, ?_, avs ++ [.str x₀ tv], _, oc₇, R', its', e', rest, rfl, ⟨_, dc₇⟩, hoff, rfl, kR, ?_, ?_, ?_, ?_, ?_, ?_⟩
        · intro q hq
          rcases List.mem_cons.mp hq with rfl | hq
          · exact hI (P, lstO avs.toArray ea) (List.Mem.head _)
          · rcases List.mem_cons.mp hq with rfl | hq
            · exact hI (L + 1, oc) (List.Mem.tail _ (List.Mem.head _))
            · exact hI q (List.mem_cons_of_mem _ (List.mem_cons_of_mem _ hq))
        · rw [hfold]; exact kRw
        · rw [hfold]; exact hstr.snoc
        · rw [hfold']; exact wlk_names hnmA hsok hnm
        · omega
        · rw [List.length_append, List.length_singleton]; omega
        · intro y hy
          simp only [List.mem_cons, List.not_mem_nil, or_false, not_or] at hy
          obtain ⟨a1, a2, a3, a4⟩ := hy
          simp only [if_neg a1, if_neg a2, if_neg a3, if_neg a4]
  · rintro m nw h tk ⟨avs, ea, oc, R', its', e', rest, rfl, ⟨vc, hoc⟩, hoff, hmR, kR, kRw, hstr, hnm, hz₁, hz₂, hag⟩ F N
    rw [hag.eq1 hmR] at F
    simp only [but] at F
    replace F : Fr h₀ L h _ := F
    replace N : News h₀ L h _ := N
    (try dsimp only)
    k_steps
    (rename Fr _ _ _ _ => F)
    (rename News _ _ _ _ => N)
    have hall : acts.take aits.size = acts := by rw [hA.1, List.take_length]
    rw [hall] at kRw hstr
    have N₃ := newsTail (newsTail (newsTail N))
    refine hQ _ R' P its' e' avs.toArray ea _ _ (fun b o e => F.keep _ _ (hup b o nil_ne e)) (N _ (List.Mem.head _)).1 (kR.get F N₃) ⟨kRw.1, fun i kv e => ?_⟩ (N _ (List.Mem.tail _ (List.Mem.head _))).1 (by simpa using hstr)
    obtain ⟨r, t1, t2, q1, q2⟩ := kRw.2 i kv e
    exact ⟨r, t1, t2, q1, q2.get F N₃⟩
end
theorem kw24 : True := by
  k_with_none
  trivial
end
section
theorem carr_len : ∀ {ys : List Value} {ds : List PyData}, CarriedAll ys ds → ys.length = ds.length
  | _, _, .nil => rfl
  | _, _, .cons _ r => congrArg (· + 1) (carr_len r)
noncomputable def rts (v : Str) : Int := (((PyProof.Rows.signs v).filter fun a => a != Str.ofString "-").length : Nat)
section
variable {w : World} {p : Program} {loose : List Str} {mg mb : Str → Option Value}
theorem rights_c {n : Nat} {A : Around} {Q E : Value → Shared → Prop} {s : Shared} {r : Addr} {k v : Str} {t1 t2 : Tok} (TW : Tops w p loose mg mb) (KX : (KK w.params).In s.heap) (RA : Room (n + 1) A)
    (hr : s.heap.get? r = some (tupO [.str k t1, .str v t2])) (hv : okS v)
    (hQ : ∀ h' tk' t', Up s.heap h' → Q (.int (rts v) t') { s with heap := h', toks := tk' }) :
    wpAny (model PW w) A (call (.ref 273) [.ref r]) Q E s := by
  refine enterC (n := n) [] TW KX nil_hide RA (by k_is) (by k_is) (kp_binds KX (fun _ => rfl)) (locs rfl) ?_ (by decide)
  intro h₀ L h₁ tk₁ F N X T₀ hup hdn hlt R₁
  have iT : IsTup h₀ r #[.str k t1, .str v t2] := isTup_of (hup r _ nil_ne hr)
  have hlen : v.length ≤ 1000 := hv.1
  have hlen2 : v.length ≤ sizeLine := Nat.le_trans hlen (by decide)
  (try dsimp only)
  k_steps
  (rename Fr _ _ _ _ => F)
  (rename CarriedAll _ _ => hc)
  (rename Heap.IsList _ _ _ => hl)
  have e1 := carr_len hc
  rw [List.length_map] at e1
  have e2 : ((PyProof.Rows.signs v).filter fun a => a != Str.ofString "-").length ≤ (PyProof.Rows.signs v).length := List.length_filter_le _ _
  rw [PyProof.Rows.signs_length] at e2
  have e3 : v.cps.size ≤ 1000 := hv.1
  refine len_list hl (by rw [List.size_toArray]; omega) ?_
  rw [List.size_toArray, e1]
  exact hQ _ _ _ (fun b o e => F.keep _ _ (hup b o nil_ne e))
noncomputable def ltS (a b : Str) : Bool := decide (a.cps.toList < b.cps.toList)
noncomputable def cmpv (k1 v1 k2 v2 : Str) : Int := if rts v1 ≠ rts v2 then rts v2 - rts v1 else b2i (ltS (low k2) (low k1)) - b2i (ltS (low k1) (low k2))
theorem compare_c {A : Around} {Q E : Value → Shared → Prop} {s : Shared} {r₁ r₂ : Addr} {k1 v1 k2 v2 : Str} {t1 t2 t3 t4 : Tok} (TW : Tops w p loose mg mb) (KX : (KK w.params).In s.heap) (RA : Room 2 A)
    (hr₁ : s.heap.get? r₁ = some (tupO [.str k1 t1, .str v1 t2])) (hr₂ : s.heap.get? r₂ = some (tupO [.str k2 t3, .str v2 t4])) (hv₁ : okS v1) (hv₂ : okS v2) (hk₁ : k1 ∈ NM) (hk₂ : k2 ∈ NM)
    (hQ : ∀ h' tk' t', Up s.heap h' → Q (.int (cmpv k1 v1 k2 v2) t') { s with heap := h', toks := tk' }) :
    wpAny (model PW w) A (call (.ref 280) [.ref r₁, .ref r₂]) Q E s := by
  refine enterC (n := 1) [] TW KX nil_hide RA (by k_is) (by k_is) (kp_binds KX (fun _ => rfl)) (locs rfl) ?_ (by decide)
  intro h₀ L h₁ tk₁ F N X T₀ hup hdn hlt R₁
  have g1 := hup r₁ _ nil_ne hr₁
  have g2 := hup r₂ _ nil_ne hr₂
  have iT₁ : IsTup h₀ r₁ #[.str k1 t1, .str v1 t2] := isTup_of g1
  have iT₂ : IsTup h₀ r₂ #[.str k2 t3, .str v2 t4] := isTup_of g2
  (try dsimp only)
  k_steps
  refine rights_c (n := 0) TW (Frag.In.keeps X F.keep) R₁ (F.keep _ _ g1) hv₁ ?_
  intro h₂ tk₂ u₂ up₂
  have F := F.keeps up₂
  have N := N.grown up₂
  (try dsimp only)
  k_steps
  refine rights_c (n := 0) TW (Frag.In.keeps X F.keep) R₁ (F.keep _ _ g2) hv₂ ?_
  intro h₃ tk₃ u₃ up₃
  have F := F.keeps up₃
  have N := N.grown up₃
  (try dsimp only)
  k_steps
  · (rename rts _ ≠ _ => hne)
    refine rights_c (n := 0) TW (Frag.In.keeps X F.keep) R₁ (F.keep _ _ g2) hv₂ ?_
    intro h₄ tk₄ u₄ up₄
    have F := F.keeps up₄
    have N := N.grown up₄
    (try dsimp only)
    k_steps
    refine rights_c (n := 0) TW (Frag.In.keeps X F.keep) R₁ (F.keep _ _ g1) hv₁ ?_
    intro h₅ tk₅ u₅ up₅
    have F := F.keeps up₅
    have N := N.grown up₅
    (try dsimp only)
    k_steps
    have e : cmpv k1 v1 k2 v2 = rts v2 - rts v1 := by unfold cmpv; rw [if_pos hne]
    rw [e] at hQ
    exact hQ _ _ _ (fun b o e => F.keep _ _ (hup b o nil_ne e))
  · (rename rts _ = _ => heq)
    refine lower_c (Frag.In.keeps X F.keep) R₁ hk₁ ?_
    intro h₄ tk₄ u₄ up₄
    have F := F.keeps up₄
    have N := N.grown up₄
    (try dsimp only)
    k_steps
    refine lower_c (Frag.In.keeps X F.keep) R₁ hk₂ ?_
    intro h₄ tk₄ u₄ up₄
    have F := F.keeps up₄
    have N := N.grown up₄
    (try dsimp only)
    k_steps
    refine lower_c (Frag.In.keeps X F.keep) R₁ hk₁ ?_
    intro h₄ tk₄ u₄ up₄
    have F := F.keeps up₄
    have N := N.grown up₄
    (try dsimp only)
    k_steps
    refine lower_c (Frag.In.keeps X F.keep) R₁ hk₂ ?_
    intro h₄ tk₄ u₄ up₄
    have F := F.keeps up₄
    have N := N.grown up₄
    (try dsimp only)
    k_steps
    have e : cmpv k1 v1 k2 v2 = b2i (ltS (low k2) (low k1)) - b2i (ltS (low k1) (low k2)) := by unfold cmpv; rw [if_neg (by rw [heq]; exact fun h => h rfl)]
    rw [e] at hQ
    exact hQ _ _ _ (fun b o e => F.keep _ _ (hup b o nil_ne e))
end
end
section
theorem stp_wlk {st : List (Str × Str) × List Str} {a : Act} (ha : a.ok) : stp st a = wlk st a := by
  obtain ⟨deed, nm, mode⟩ := a
  obtain ⟨hd, _, h1, h2⟩ := ha
  dsimp only at h1 h2
  have hs := signs_sg h1 h2
  simp only [List.mem_cons, List.not_mem_nil, or_false] at hd
  rcases hd with rfl | rfl | rfl | rfl
  · rw [wlk_set, ← hs]; rfl
  · rw [wlk_add, ← hs]; rfl
  · rw [wlk_drop]; rfl
  · rw [wlk_default, ← hs]
    show ((dflt st.1 nm (signs mode)).1, st.2 ++ [(dflt st.1 nm (signs mode)).2]) = _
    unfold dflt
    cases hf : st.1.find? (fun r => low r.1 == low nm) with
    | none =>
      have hn : (st.1.filter fun r => low r.1 == low nm) = [] := by
        rw [List.filter_eq_nil_iff]
        intro x hx
        have := List.find?_eq_none.mp hf x hx
        exact this
      rw [hn]
      rfl
    | some kv =>
      have hh : (st.1.filter fun r => low r.1 == low nm).head? = some kv := by rw [List.head?_filter, hf]
      cases hl : (st.1.filter fun r => low r.1 == low nm) with
      | nil => rw [hl] at hh; cases hh
      | cons x r =>
        rw [hl] at hh
        obtain rfl : x = kv := by simpa using hh
        rfl
theorem fold_same : ∀ {acts : List Act} {st : List (Str × Str) × List Str}, (∀ a ∈ acts, a.ok) → acts.foldl stp st = acts.foldl wlk st
  | [], _, _ => rfl
  | a :: r, st, h => by
    rw [List.foldl_cons, List.foldl_cons, stp_wlk (h a (List.Mem.head _))]
    exact fold_same fun b hb => h b (List.mem_cons_of_mem _ hb)
/-- the pure run of a sorting tree -/
noncomputable def run {α : Type} (f : Nat → Nat → Bool) : KasT α → α
  | .ret a => a
  | .ask i j k => run f (k (f i j))
/-- all questions of a tree lie below n -/
noncomputable def asks {α : Type} (n : Nat) (P : α → Prop) : KasT α → Prop
  | .ret a => P a
  | .ask i j k => i < n ∧ j < n ∧ ∀ b, asks n P (k b)
theorem asks_run {α : Type} {n : Nat} {P : α → Prop} {f : Nat → Nat → Bool} : ∀ {t : KasT α}, asks n P t → P (run f t)
  | .ret _, h => h
  | .ask i j k, h => asks_run (t := k (f i j)) (h.2.2 _)
theorem asks_bind {α β : Type} {n : Nat} {P : α → Prop} {R : β → Prop} {f : α → KasT β} (hf : ∀ a, P a → asks n R (f a)) : ∀ {t : KasT α}, asks n P t → asks n R (t.bind f)
  | .ret a, h => hf a h
  | .ask _ _ _, h => ⟨h.1, h.2.1, fun b => asks_bind hf (h.2.2 b)⟩
/-- a tree whose questions are answered by f ends in the pure run -/
theorem wp_run {α : Type} {n : Nat} {P : α → Prop} {f : Nat → Nat → Bool} {cmp : Nat → Nat → (Bool → Shared → Prop) → Shared → Prop} {Q : α → Shared → Prop} (Inv : Shared → Prop)
    (hc : ∀ i j s C, i < n → j < n → Inv s → (∀ s', Inv s' → C (f i j) s') → cmp i j C s) : ∀ {t : KasT α} {s : Shared}, asks n P t → Inv s → (∀ s', Inv s' → Q (run f t) s') → t.kasWp cmp Q s
  | .ret _, s, _, hs, h => h s hs
  | .ask i j k, s, ht, hs, h => hc i j s _ ht.1 ht.2.1 hs fun s' hs' => wp_run Inv hc (t := k (f i j)) (ht.2.2 _) hs' h
/-- all items lie below n -/
noncomputable def below (n : Nat) (p : Array Nat) : Prop := ∀ x ∈ p.toList, x < n
theorem below.at {n : Nat} {p : Array Nat} (h : below n p) (hn : 0 < n) (i : Nat) : p.getD i 0 < n := by
  rw [Array.getD_eq_getD_getElem?]
  cases e : p[i]? with
  | none => exact hn
  | some x => exact h x (by rw [Array.mem_toList_iff]; exact Array.mem_of_getElem? e)
theorem below.perm {n : Nat} {p q : Array Nat} (h : below n p) (hp : q.Perm p) : below n q := fun x hx => h x ((Array.perm_iff_toList_perm.mp hp).mem_iff.mp hx)
theorem below.rev {n i j : Nat} {p : Array Nat} (h : below n p) : below n (kas_rev p i j) := h.perm (mirror_perm _ _ _ _)
section
variable {n : Nat} (hn : 0 < n)
include hn
theorem asks_asc {p : Array Nat} (hp : below n p) : ∀ f m, asks n (fun _ => True) (kas_asc p f m)
  | 0, _ => trivial
  | f + 1, m => ⟨hp.at hn _, hp.at hn _, fun c => by
    dsimp only
    split
    · trivial
    · exact asks_asc hp f (m + 1)⟩
theorem asks_desc : ∀ f (p : Array Nat) m q, below n p → asks n (fun r => below n r.1) (kas_desc f p m q)
  | 0, _, _, _, hp => hp
  | f + 1, p, m, q, hp => ⟨hp.at hn _, hp.at hn _, fun c => by
    dsimp only
    split
    · split
      · exact asks_desc f _ _ _ hp.rev
      · exact asks_desc f _ _ _ hp
    · refine ⟨hp.at hn _, hp.at hn _, fun d => ?_⟩
      dsimp only
      split
      · exact hp
      · exact asks_desc f _ _ _ hp⟩
theorem asks_tail3 {m k : Nat} {p : Array Nat} (hp : below n p) : asks n (fun r => below n r.2) (kas_tail3 m k p) :=
  asks_bind (R := fun r : Nat × Array Nat => below n r.2) (f := fun m' => KasT.ret (m', kas_rev p 0 m)) (fun _ _ => (hp.rev : below n (kas_rev p 0 m))) (asks_asc hn hp.rev (k - m) m)
theorem asks_descPart {m k : Nat} {p : Array Nat} (hp : below n p) : asks n (fun r => below n r.2) (kas_descPart m k p) := by
  refine asks_bind (fun r hr => ?_) (asks_desc hn _ _ _ _ hp)
  split
  · exact asks_tail3 hn (below.rev hr)
  · exact asks_tail3 hn hr
theorem asks_count {k : Nat} {p : Array Nat} (hp : below n p) : asks n (fun r => below n r.2) (kas_count k p) := by
  refine asks_bind (fun m _ => ?_) (asks_asc hn hp _ _)
  split
  · exact hp
  · split
    · refine ⟨hp.at hn _, hp.at hn _, fun c => ?_⟩
      dsimp only
      split
      · exact hp
      · exact asks_descPart hn hp.rev
    · exact asks_descPart hn hp
theorem asks_place {k : Nat} {p : Array Nat} (hp : below n p) : ∀ f l r, asks n (fun _ => True) (kas_place p k f l r)
  | 0, _, _ => trivial
  | f + 1, l, r => by
    unfold kas_place
    split
    · trivial
    · refine ⟨hp.at hn _, hp.at hn _, fun c => ?_⟩
      dsimp only
      split
      · exact asks_place hp f _ _
      · exact asks_place hp f _ _
theorem asks_bin : ∀ f (p : Array Nat) k, below n p → asks n (below n) (kas_bin f p k)
  | 0, _, _, hp => hp
  | f + 1, p, k, hp => asks_bind (fun l _ => asks_bin f _ _ (hp.perm (bubble_perm _ _ _))) (asks_place hn hp _ _ _)
theorem asks_sort : asks n (below n) (kas_sort n) := by
  have h0 : below n (List.toArray (List.range n)) := fun x hx => by simpa using hx
  refine asks_bind (fun r hr => ?_) (asks_count hn h0)
  split
  · exact asks_bin hn _ _ _ hr
  · exact hr
end
end
section
section
variable {w : World} {A : Around} {s : Shared} {h₀ : Heap} {L : Addr} {m : Str → Option Value}
theorem news_ext {h h' : Heap} {nw ext : List (Addr × Obj)} (F : Fr h₀ L h m) (N : News h₀ L h' nw) (hx : ∀ q ∈ ext, h'.get? q.1 = some q.2 ∧ h.get? q.1 = none) : News h₀ L h' (ext ++ nw) := by
  intro p hp
  rcases List.mem_append.mp hp with q | q
  · refine ⟨(hx p q).1, fun e => ?_, ?_⟩
    · obtain ⟨o, es, ep, e₁, r⟩ := F.ns
      have := (hx p q).2
      rw [e, e₁] at this; cases this
    · cases z : h₀.get? p.1 with
      | none => rfl
      | some o => have := (hx p q).2; rw [F.keep _ _ z] at this; cases this
  · exact N p q
/-- what a key's call must do -/
noncomputable def KeyCall (w : World) (A : Around) (s : Shared) (h₀ : Heap) (L : Addr) (m : Str → Option Value) (f : Value) (vs : List Value) (news : List (Addr × Obj)) (Key : List (Addr × Obj) → Nat → Value → Prop) : Prop :=
  ∀ (i : Nat) v h tk nw, vs[i]? = some v → Fr h₀ L h m → News h₀ L h nw → (∀ q ∈ news, q ∈ nw) → ∀ (Q' : Value → Shared → Prop),
    (∀ k h' tk' ext, Up h h' → (∀ q ∈ ext, h'.get? q.1 = some q.2 ∧ h.get? q.1 = none) → Key (ext ++ nw) i k → Q' k { s with heap := h', toks := tk' }) → wpAny (model PW w) A (call f [v]) Q' (fun _ _ => False) { s with heap := h, toks := tk }
theorem keys_run {f : Value} {vs : List Value} {news : List (Addr × Obj)} {Key : List (Addr × Obj) → Nat → Value → Prop} (mono : ∀ nw nw' i k, Key nw i k → (∀ q ∈ nw, q ∈ nw') → Key nw' i k)
    (hkey : KeyCall w A s h₀ L m f vs news Key) {kS D : Addr} {e1 : Nat} (hkD : D ≠ kS) {Fin : List Value → Nat → Shared → Prop}
    (fin : ∀ ks e h tk ext, ks.length = vs.length → (∀ i k, ks[i]? = some k → Key ext i k) → Fr h₀ L h m → News h₀ L h ((kS, seqObj "list" (List.toArray ks) e) :: (D, seqObj "list" #[] e1) :: ext) → (∀ q ∈ news, q ∈ ext) → (∀ q ∈ ext, q.1 ≠ kS ∧ q.1 ≠ D) → Fin ks e { s with heap := h, toks := tk }) :
    ∀ (r ks : List Value) (e : Nat) (h : Heap) (tk : Nat) (ext : List (Addr × Obj)), ks.length + r.length = vs.length → (∀ i, r[i]? = vs[ks.length + i]?) → (∀ i k, ks[i]? = some k → Key ext i k) → Fr h₀ L h m → News h₀ L h ((kS, seqObj "list" (List.toArray ks) e) :: (D, seqObj "list" #[] e1) :: ext) →
      (∀ q ∈ news, q ∈ ext) → (∀ q ∈ ext, q.1 ≠ kS ∧ q.1 ≠ D) → KatKeys PW w A h₀ L m kS f Fin r ks e { s with heap := h, toks := tk }
  | [], ks, e, h, tk, ext, hl, hr, hk, F, N, hs, ho => KatKeys.nil (fin ks e h tk ext (by simpa using hl) hk F N hs ho)
  | v :: r, ks, e, h, tk, ext, hl, hr, hk, F, N, hs, ho => by
    have hv : vs[ks.length]? = some v := by have := hr 0; simpa using this.symm
    have N₂ : News h₀ L h ext := newsTail (newsTail N)
    have nk := (N _ (List.Mem.head _))
    have nD := (N _ (List.Mem.tail _ (List.Mem.head _)))
    refine KatKeys.cons (hkey ks.length v h tk ext hv F N₂ hs _ fun k h' tk' ext' up fresh hK => ?_)
    have F' := F.keeps up
    have N' : News h₀ L h' ((kS, seqObj "list" (List.toArray ks) e) :: (D, seqObj "list" #[] e1) :: (ext' ++ ext)) := by
      intro p hp
      rcases List.mem_cons.mp hp with rfl | hp
      · exact ⟨up _ _ nk.1, nk.2⟩
      · rcases List.mem_cons.mp hp with rfl | hp
        · exact ⟨up _ _ nD.1, nD.2⟩
        · exact news_ext F (N₂.grown up) fresh p hp
    have ho' : ∀ q ∈ ext' ++ ext, q.1 ≠ kS ∧ q.1 ≠ D := by
      intro q hq
      rcases List.mem_append.mp hq with hq | hq
      · refine ⟨fun z => ?_, fun z => ?_⟩
        · have := (fresh q hq).2; rw [z, nk.1] at this; cases this
        · have := (fresh q hq).2; rw [z, nD.1] at this; cases this
      · exact ho q hq
    refine KatBack.intro F' N' (UpdF.head fun p hp => ?_) fun h'' c F'' N'' => ?_
    · rcases List.mem_cons.mp hp with rfl | hp
      · exact hkD
      · exact (ho' p hp).1
    · refine keys_run mono hkey hkD fin r (ks ++ [k]) c h'' tk' (ext' ++ ext) ?_ ?_ ?_ F'' N'' (fun q hq => List.mem_append_right _ (hs q hq)) ho'
      · rw [List.length_append, List.length_singleton]; rw [List.length_cons] at hl; omega
      · intro i
        rw [List.length_append, List.length_singleton]
        have := hr (i + 1)
        rw [List.getElem?_cons_succ] at this
        rw [this]; congr 1; omega
      · intro i k' e'
        by_cases hi : i < ks.length
        · rw [List.getElem?_append_left hi] at e'
          exact mono _ _ _ _ (hk i k' e') fun q hq => List.mem_append_right _ hq
        · have hlt := (List.getElem?_eq_some_iff.mp e').1
          rw [List.length_append, List.length_singleton] at hlt
          obtain rfl : i = ks.length := by omega
          rw [List.getElem?_append_right (Nat.le_refl _), Nat.sub_self] at e'
          obtain rfl : k = k' := by simpa using e'
          exact hK
theorem sorted_big {A₀ : Around} {E Q : Value → Shared → Prop} {f : Value} {kw : List (Str × Value)} {vs : List Value} {l : Addr} {news : List (Addr × Obj)} {g : Nat → Nat → Bool} {κ₀ : SortKind} (Key : List (Addr × Obj) → Nat → Value → Prop) (mono : ∀ nw nw' i k, Key nw i k → (∀ q ∈ nw, q ∈ nw') → Key nw' i k)
    (F : Fr h₀ L s.heap m) (N : News h₀ L s.heap news) (hl : s.heap.IsList l vs.toArray) (h2 : 2 ≤ vs.length) (h64 : vs.length < 64)
    (ha1 : argsOk "sorted" ⟨[.ref l], kw⟩) (ha2 : ∀ x, argsOk "list.sort" ⟨[.ref x], kw⟩) (ht : ∀ x, Builtin.«list.sort» ⟨[.ref x], kw⟩ = ksk_tree x f false)
    (hkey : KeyCall w A₀.in1.in1 s h₀ L m f vs news Key)
    (hkind : ∀ ks h tk nw, ks.length = vs.length → (∀ i k, ks[i]? = some k → Key nw i k) → Fr h₀ L h m → News h₀ L h nw → ∀ Q' : SortKind → Shared → Prop, Q' κ₀ { s with heap := h, toks := tk } → wpAny (model PW w) A₀.in1.in1 (keyKind' (List.toArray ks)) Q' (fun _ _ => False) { s with heap := h, toks := tk })
    (hlt : ∀ i j ki kj h tk nw, i < vs.length → j < vs.length → Key nw i ki → Key nw j kj → Fr h₀ L h m → News h₀ L h nw → (∀ q ∈ news, q ∈ nw) → ∀ Q' : Bool → Shared → Prop, (∀ h' tk', Up h h' → Q' (g i j) { s with heap := h', toks := tk' }) → wpAny (model PW w) A₀.in1.in1 (keyLt' κ₀ ki kj) Q' (fun _ _ => False) { s with heap := h, toks := tk })
    (hQ : ∀ D h' tk' c, Fr h₀ L h' m → News h₀ L h' ((D, lstO (List.toArray ((run g (kas_sort vs.length)).toList.map fun i => vs.getD i Value.none)) c) :: news) → Q (.ref D) { s with heap := h', toks := tk' }) :
    wpAny (model PW w) A₀ (call (.builtin "sorted") [.ref l] kw) Q E s := by
  refine kat_sortedK (f := f) (b := false) F N hl h2 h64 ha1 ha2 ht ?_
  intro D kS e1 h' F' N' lDk lnD
  have hkD : D ≠ kS := Nat.ne_of_lt lDk
  refine keys_run mono hkey hkD ?_ vs [] 0 h' s.toks news (by simp) (by simp) (by simp) F' N' (fun _ h => h) (fun q hq => ⟨Nat.ne_of_lt (Nat.lt_trans (lnD q hq) lDk), Nat.ne_of_lt (lnD q hq)⟩)
  intro ks e h tk ext hlen hk F N hs ho
  refine hkind ks h tk ext hlen hk F (newsTail (newsTail N)) _ ?_
  refine wp_run (P := below vs.length) (f := g) (fun s' => ∃ h tk, s' = { s with heap := h, toks := tk } ∧ Fr h₀ L h m ∧ News h₀ L h ((kS, seqObj "list" (List.toArray ks) e) :: (D, seqObj "list" #[] e1) :: ext)) ?_ (asks_sort (by omega)) ⟨h, tk, rfl, F, N⟩ ?_
  · rintro i j s' C hi hj ⟨h, tk, rfl, F, N⟩ hC
    show wpAny (model PW w) A₀.in1.in1 (keyLt' κ₀ (ks.getD i Value.none) (ks.getD j Value.none)) C _ _
    have ei : ks[i]? = some (ks.getD i Value.none) := by rw [List.getD_eq_getElem?_getD, List.getElem?_eq_getElem (by omega)]; rfl
    have ej : ks[j]? = some (ks.getD j Value.none) := by rw [List.getD_eq_getElem?_getD, List.getElem?_eq_getElem (by omega)]; rfl
    exact hlt i j _ _ h tk ext hi hj (hk i _ ei) (hk j _ ej) F (newsTail (newsTail N)) hs _ fun h' tk' up => hC _ ⟨h', tk', rfl, F.keeps up, N.grown up⟩
  · rintro s' ⟨h, tk, rfl, F, N⟩
    refine KatFin.intro F N (UpdF.head fun p hp => ?_) fun h₁ c₁ F₁ N₁ => KasFin.intro F₁ N₁ (UpdF.tail (Ne.symm hkD) (UpdF.head fun p hp => (ho p hp).2)) fun h₂ c₂ F₂ N₂ => hQ D h₂ tk c₂ F₂ fun p hp => ?_
    · rcases List.mem_cons.mp hp with rfl | hp
      · exact hkD
      · exact (ho p hp).1
    · rcases List.mem_cons.mp hp with rfl | hp
      · exact N₂ _ (List.Mem.tail _ (List.Mem.head _))
      · exact N₂ p (List.mem_cons_of_mem _ (List.mem_cons_of_mem _ (hs p hp)))
end
end
section
theorem one_map {k v : Value} : (arrOf ((), SortSt.mk' general' (if false = true then (#[k].zip #[v]).reverse else #[k].zip #[v]) #[] 7 none).snd).map (·.2) = List.toArray [v] := by
  have e : (if false = true then (#[k].zip #[v]).reverse else #[k].zip #[v]) = #[(k, v)] := by simp
  rw [e]
  show (#[(k, v)] : Array Keyed).map (·.2) = List.toArray [v]
  simp
section
variable {w : World} {A : Around} {s : Shared} {h₀ : Heap} {L : Addr} {m : Str → Option Value}
theorem one_end {E : Value → Shared → Prop} {P : PySem.Fin → Shared → Prop} {a kS : Addr} {k v : Value} {e e1 : Nat} {news : List (Addr × Obj)} (F : Fr h₀ L s.heap m) (N : News h₀ L s.heap ((kS, seqObj "list" #[k] e) :: (a, seqObj "list" #[] e1) :: news)) (hka : a ≠ kS) (ho : ∀ q ∈ news, q.1 ≠ kS ∧ q.1 ≠ a)
    (h : ∀ h' c, Fr h₀ L h' m → News h₀ L h' ((a, lstO #[v] c) :: news) → P (.done (.ret .none)) { s with heap := h' }) : wpAny (model PW w) A (ksk_end a false #[v] e1 (.ref kS) #[k]) P E s := by
  unfold ksk_end
  try dsimp only
  have h12 : (#[v] : Array Value).size < 2 := by simp
  rw [if_neg (by decide), if_pos h12, if_pos h12]
  refine wpAny_bind (wpAny_pure ?_)
  rw [StateT.run_pure]
  refine wpAny_bind (wpAny_pure ?_)
  refine kat_tail (h₀ := h₀) (L := L) (m := m) (ks := [k]) (out := [v]) (e := e) one_map (show 1 < 64 by decide) (show 1 < 64 by decide) rfl ?_
  refine KatFin.intro F N (UpdF.head fun p hp => ?_) fun h₁ c₁ F₁ N₁ => KasFin.intro F₁ N₁ (UpdF.tail (Ne.symm hka) (UpdF.head fun p hp => (ho p hp).2)) fun h₂ c₂ F₂ N₂ => h h₂ c₂ F₂ fun p hp => ?_
  · rcases List.mem_cons.mp hp with rfl | hp
    · exact hka
    · exact (ho p hp).1
  · exact N₂ p (List.mem_cons_of_mem _ hp)
theorem sorted_one {A₀ : Around} {E Q : Value → Shared → Prop} {f : Value} {kw : List (Str × Value)} {v : Value} {l : Addr} {news : List (Addr × Obj)} (Key : List (Addr × Obj) → Nat → Value → Prop)
    (F : Fr h₀ L s.heap m) (N : News h₀ L s.heap news) (hl : s.heap.IsList l #[v])
    (ha1 : argsOk "sorted" ⟨[.ref l], kw⟩) (ha2 : ∀ x, argsOk "list.sort" ⟨[.ref x], kw⟩) (ht : ∀ x, Builtin.«list.sort» ⟨[.ref x], kw⟩ = ksk_tree x f false)
    (hkey : KeyCall w A₀.in1.in1 s h₀ L m f [v] news Key)
    (hQ : ∀ D h' tk' c, Fr h₀ L h' m → News h₀ L h' ((D, lstO #[v] c) :: news) → Q (.ref D) { s with heap := h', toks := tk' }) :
    wpAny (model PW w) A₀ (call (.builtin "sorted") [.ref l] kw) Q E s := by
  refine call_function_entry_kw kind_sorted plain_sorted entry_sorted ha1 ?_
  unfold Builtin.«sorted»
  refine wpAny_bind (m := checkCount "sorted" 1 1 _) (wpAny_pure ?_)
  refine wpAny_bind (collect_list hl ?_ (by rw [sizeLine_eq]; exact (show 1 ≤ 16777216 by decide)))
  refine wpAny_bind (wpAny_newList ?_ (by rw [sizeLine_eq]; exact (show 1 ≤ 16777216 by decide)))
  have hsz : ((s.heap.push (seqObj "list" #[] 0)).update s.heap.objs.size (Obj.mapSeq (· ++ #[v]))).objs.size = s.heap.objs.size + 1 := by rw [Heap.size_update, size_push']
  show wpAny _ _ _ _ _ { s with heap := ((s.heap.push (seqObj "list" #[] 0)).update s.heap.objs.size (Obj.mapSeq (· ++ #[v]))).push (seqObj "list" #[v] 0) }
  rw [hsz]
  generalize hh1 : (((s.heap.push (seqObj "list" #[] 0)).update s.heap.objs.size (Obj.mapSeq (· ++ #[v]))).push (seqObj "list" #[v] 0)) = h₁
  have hoL : h₁.get? (s.heap.objs.size + 1) = some (seqObj "list" #[v] 0) := by
    rw [← hh1, ← hsz]; exact Heap.get?_push_size _ rfl
  have keep : Up s.heap h₁ := fun b o q => by
    have hlt : b < s.heap.objs.size := Heap.lt_size q
    rw [← hh1, Heap.get?_push_ne _ _ _ (by rw [hsz]; exact Nat.ne_of_lt (Nat.lt_succ_of_lt hlt)), Heap.get?_update_ne _ _ _ _ (Nat.ne_of_lt hlt), Heap.get?_push_ne _ _ _ (Nat.ne_of_lt hlt)]
    exact q
  have hL : L < s.heap.objs.size := F.ns.lt
  generalize ha : s.heap.objs.size + 1 = a at hoL ⊢
  have haL : a ≠ L := by rw [← ha]; exact Nat.ne_of_gt (Nat.lt_succ_of_lt hL)
  have ha0 : h₀.get? a = none := Heap.get?_none_of_le (by rw [← ha]; exact Nat.le_trans F.above (Nat.le_succ_of_le (Nat.le_of_lt hL)))
  have hna : ∀ p ∈ news, p.1 ≠ a := fun p hp => by rw [← ha]; exact Nat.ne_of_lt (Nat.lt_succ_of_lt (Heap.lt_size (N p hp).1))
  have F := F.keeps keep
  have N := N.grown keep
  refine wpAny_bind (wpAny_holding (wpAny_call_entry_kw slot_list_sort ⟨_, hoL, rfl⟩ entry_list_sort ?body (ha2 _)))
  case body =>
    show wpAny (model PW w) A₀.in1.in1 (Builtin.«list.sort» ⟨[.ref a], kw⟩) _ _ _
    rw [ht a]
    have s1 := Heap.SameBut.update h₁ a (Obj.mapSeq fun _ => (#[] : Array Value))
    obtain ⟨e1, ho1⟩ : ∃ e1, (h₁.update a (Obj.mapSeq fun _ => (#[] : Array Value))).get? a = some (seqObj "list" #[] e1) := ⟨_, get?_update_seq hoL fun _ => #[]⟩
    have F1 := kas_fr F s1 haL ha0
    have N1 := kas_news N s1 hna
    unfold ksk_tree
    refine wpAny_bind (listItems_at hoL rfl ?_)
    refine wpAny_bind (listUpdate_at hoL rfl ?_ (by rw [sizeLine_eq]; exact (show 1 ≤ 16777216 by decide)) (Nat.zero_le _))
    refine wpAny_bind (seqEpoch_at ho1 rfl ?_)
    refine wpAny_bind (wpAny_newTuple ?_ (by show 1 ≤ _; rw [sizeLine_eq]; decide))
    refine wpAny_bind (wpAny_newList ?_ (Nat.zero_le _))
    refine wpAny_holding ?_
    show wpAny _ _ (ksk_rest a f false #[v] e1 (.ref ((h₁.update a (Obj.mapSeq fun _ => (#[] : Array Value))).push (seqObj "tuple" #[v] 0)).objs.size)) _ _ { s with heap := ((h₁.update a (Obj.mapSeq fun _ => (#[] : Array Value))).push (seqObj "tuple" #[v] 0)).push (seqObj "list" #[] 0) }
    generalize hh2 : (h₁.update a (Obj.mapSeq fun _ => (#[] : Array Value))).push (seqObj "tuple" #[v] 0) = h₂
    have F2 : Fr h₀ L h₂ m := hh2 ▸ F1.push _
    have up2 : ∀ b o, (h₁.update a (Obj.mapSeq fun _ => (#[] : Array Value))).get? b = some o → h₂.get? b = some o := fun b o q => hh2 ▸ Heap.get?_push_of_some _ q
    have hk3 : (h₂.push (seqObj "list" #[] 0)).get? h₂.objs.size = some (seqObj "list" #[] 0) := Heap.get?_push_size _ rfl
    have hkL : L < h₂.objs.size := F2.ns.lt
    have hlt2 : ∀ b o, h₂.get? b = some o → b < h₂.objs.size := fun b o q => Heap.lt_size q
    generalize hkS : h₂.objs.size = kS at hk3 hkL hlt2 ⊢
    have F3 : Fr h₀ L (h₂.push (seqObj "list" #[] 0)) m := F2.push _
    have N3 : News h₀ L (h₂.push (seqObj "list" #[] 0)) news := fun p hp => ⟨Heap.get?_push_of_some _ (up2 _ _ (N1 p hp).1), (N1 p hp).2⟩
    have hka : a ≠ kS := Nat.ne_of_lt (hlt2 _ _ (up2 _ _ ho1))
    have nk3 : ∀ q ∈ news, q.1 ≠ kS ∧ q.1 ≠ a := fun q hq => ⟨Nat.ne_of_lt (hlt2 _ _ (up2 _ _ (N1 q hq).1)), hna q hq⟩
    have ha3 : (h₂.push (seqObj "list" #[] 0)).get? a = some (seqObj "list" #[] e1) := Heap.get?_push_of_some _ (up2 _ _ ho1)
    unfold ksk_rest
    refine wpAny_bind (wpAny_rule ?_)
    rw [← Array.forIn_toList]
    show wpAny _ _ (forIn [v] PUnit.unit _ >>= _) _ _ _
    rw [List.forIn_cons]
    refine wpAny_bind (wpAny_bind (wpAny_bind (wpAny_attempt (wpAny_mono (hkey 0 v (h₂.push (seqObj "list" #[] 0)) s.toks news rfl F3 N3 (fun _ h => h) _ fun k h' tk' ext up fresh hK => ?_) (fun _ _ q => q) fun _ _ q => q.elim))))
    try dsimp only
    have hk4 := up _ _ hk3
    have ha4 := up _ _ ha3
    refine wpAny_bind (listUpdate_at hk4 rfl ?_ (Nat.zero_le _) (by rw [sizeLine_eq]; exact (show 1 ≤ 16777217 by decide)))
    refine wpAny_pure ?_
    show wpAny _ _ (forIn [] PUnit.unit _) _ _ _
    rw [List.forIn_nil]
    refine wpAny_pure ?_
    have s4 := Heap.SameBut.update h' kS (Obj.mapSeq (·.push k))
    obtain ⟨c4, hc4⟩ : ∃ c2, (h'.update kS (Obj.mapSeq (·.push k))).get? kS = some (seqObj "list" #[k] c2) := ⟨_, get?_update_seq hk4 (·.push k)⟩
    have hkL' : kS ≠ L := Nat.ne_of_gt hkL
    have hk0 : h₀.get? kS = none := Heap.get?_none_of_le (Nat.le_trans F2.above (Nat.le_of_lt hkL))
    refine wpAny_bind (listItems_at hc4 rfl ?_)
    refine one_end (news := news) (e := c4) (kas_fr (F3.keeps up) s4 hkL' hk0) ?_ hka nk3 ?_
    · intro p hp
      rcases List.mem_cons.mp hp with rfl | hp
      · exact ⟨hc4, hkL', hk0⟩
      · rcases List.mem_cons.mp hp with rfl | hp
        · exact ⟨(s4.2 _ hka).trans ha4, haL, ha0⟩
        · exact ⟨(s4.2 _ (nk3 p hp).1).trans (up _ _ (N3 p hp).1), (N3 p hp).2⟩
    · intro h9 c9 F9 N9
      exact ⟨_, rfl, wpAny_pure ⟨_, rfl, hQ _ _ _ _ F9 N9⟩⟩
end
end
section
section
variable {w : World} {p : Program} {loose : List Str} {mg mb : Str → Option Value}
/-- enterC, for any way back -/
theorem enterR {n : Nat} {A : Around} {R : Result → Shared → Prop} {s : Shared} {name qual : Str} {params : Arguments} {body : List Stmt} {scope : Scope} {dV kV doc pm cdv ct oc : Value} {an od : Option Addr} {osl : Array (Option Value)} {f : Addr} {pos : List Value} {kw : List (Str × Value)} {binds : List (Str × Value)} (news : List (Addr × Obj))
    (TW : Tops w p loose mg mb) (KX : (KK w.params).In s.heap) (hn : ∀ p ∈ news, s.heap.get? p.1 = some p.2 ∧ hiA p.1) (hroom : Room (n + 1) A)
    (ho : (KK w.params).lookup f = some ⟨oc, od, .func (fnOf name qual params body scope dV kV doc pm an cdv ct), osl⟩) (hcd : codeIn (KK w.params) cdv qual = true)
    (hbind : BindsTo s (fnOf name qual params body scope dV kV doc pm an cdv ct) ⟨pos, kw⟩ binds) (hloc : ∀ y ∈ binds, scope.names.lookup y.1 = some .local)
    (h : ∀ h₀ L h₁ tk, Fr h₀ L h₁ (fun y => binds.reverse.lookup y) → News h₀ L h₁ news → (KK w.params).In h₀ → TopRead p loose mg mb h₀ → (∀ b o, (∀ p ∈ news, b ≠ p.1) → s.heap.get? b = some o → h₀.get? b = some o) → Up h₀ s.heap → (∀ p ∈ news, p.1 < L) → Room n ((AL n).deeper (envOf qual scope L f cdv)) →
      wpAny (model PW w) ((AL n).deeper (envOf qual scope L f cdv)) (execs body (envOf qual scope L f cdv))
        (fun fl s' => R (.ok (.ret (match fl with | .ret v => v | _ => .none))) s') (fun _ _ => False) { s with heap := h₁, toks := tk })
    (hcell : ∀ x ∈ scope.names, x.2 ≠ .cell) (hco : scope.isCoroutine = false := by rfl) (hgen : scope.isGenerator = false := by rfl) (hk : scope.kind = .function := by rfl) :
    codeAny (model PW w) A (.call (.ref f) ⟨pos, kw⟩) R s := by
  refine codeAny_call_def (fd := fnOf name qual params body scope dV kV doc pm an cdv ct) (body := body) (binds := binds) (Nat.lt_of_le_of_lt (Nat.le_trans (Nat.le_add_right _ _) hroom.depth) (by decide)) (KX _ _ ho) rfl (TW _ KX).nolimit (codeRec_of KX hcd) rfl hbind hcell hloc (fun h₁ hns hk₁ => ?_) hco hgen hk
  have X₀ : (KK w.params).In (hideAll s.heap (news.map (·.1))) := by
    intro a o e
    refine hideAll_get _ (KX a o e) fun hm => ?_
    obtain ⟨p, hp, rfl⟩ := List.mem_map.mp hm
    rw [khi _ (hn p hp).2] at e; cases e
  refine weakenL hroom (wpAny_mono (h (hideAll s.heap (news.map (·.1))) s.heap.objs.size h₁ _ ⟨hns, fun b o e => hk₁ b o (of_hideAll _ e), Nat.le_of_eq (hideAll_size _ _)⟩
    (fun p hp => ⟨hk₁ _ _ (hn p hp).1, Nat.ne_of_lt (Heap.lt_size (hn p hp).1), hideAll_none _ (List.mem_map_of_mem hp)⟩) X₀ (TW _ X₀) (fun b o hb e => hideAll_get _ e fun hm => ?_) (fun b o e => of_hideAll _ e) (fun p hp => Heap.lt_size (hn p hp).1) ⟨rfl, by have := hroom.depth; show 899 - n + 1 + n ≤ 900; omega, by have := hroom.units; show 1990 - 10 * n + 3 + 10 * n ≤ 2000; omega⟩) (fun _ _ h => h) fun _ _ h => h.elim)
  obtain ⟨p, hp, e⟩ := List.mem_map.mp hm
  exact hb p hp e.symm
theorem news_back {h₀ h₁ h' : Heap} {L H d l : Addr} {oH od oH' od' ol : Obj} {news : List (Addr × Obj)} (N₁ : News h₀ L h₁ ((H, oH) :: (d, od) :: news)) (g1 : h'.get? H = some oH') (g2 : h'.get? d = some od') (g3 : h'.get? l = some ol) (kl : h₁.get? l = some ol)
    (l1 : ∀ p ∈ news, p.1 < d) (l2 : d < H) (keep : ∀ b o, b ≠ H → b ≠ d → b ≠ l → h₁.get? b = some o → h'.get? b = some o) : News h₀ L h' ((H, oH') :: (d, od') :: news) := fun q hq => by
  rcases List.mem_cons.mp hq with rfl | hq
  · exact ⟨g1, (N₁ _ (List.Mem.head _)).2⟩
  rcases List.mem_cons.mp hq with rfl | hq
  · exact ⟨g2, (N₁ _ (List.Mem.tail _ (List.Mem.head _))).2⟩
  have y := N₁ _ (List.mem_cons_of_mem _ (List.mem_cons_of_mem _ hq))
  have lt := l1 _ hq
  by_cases c : q.1 = l
  · have e : q.2 = ol := by
      have a := y.1
      rw [c, kl] at a
      exact (Option.some.inj a).symm
    refine ⟨?_, y.2⟩
    rw [c, e]; exact g3
  · exact ⟨keep _ _ (Nat.ne_of_lt (Nat.lt_trans lt l2)) (Nat.ne_of_lt lt) c y.1, y.2⟩
theorem headers_c {A : Around} {Q E : Value → Shared → Prop} {s : Shared} {h₀ : Heap} {L : Addr} {m : Str → Option Value} {news : List (Addr × Obj)} {l r₁ r₂ : Addr} {t1 t2 t3 t4 : Tok} {e : Nat} (TW : Tops w p loose mg mb) (X : (KK w.params).In h₀) (F : Fr h₀ L s.heap m) (N : News h₀ L s.heap news) (RA : Room 5 A)
    (hl : (l, lstO #[.ref r₁, .ref r₂] e) ∈ news)
    (h1 : (r₁, tupO [.str (Str.ofString "A") t1, .str (Str.ofString "-rw-r--r--") t2]) ∈ news)
    (h2 : (r₂, tupO [.str (Str.ofString "b") t3, .str (Str.ofString "-rwxr-xr-x") t4]) ∈ news)
    (hQ : ∀ H d hh kt n' h' tk', Fr h₀ L h' m → News h₀ L h' ((H, instObj 238 d) :: (d, dictOf [⟨hh, .str (Str.ofString "_headers") kt, .ref l⟩] n') :: news) → Q (.ref H) { s with heap := h', toks := tk' }) :
    wpAny (model PW w) A (call (.ref 238) [.ref l]) Q E s := by
  have hs0 : ∀ b o, s.heap.get? b = some o → b < s.heap.objs.size := fun b o e => Heap.lt_size e
  refine call_cls F X N (by k_is) (by k_is) (by k_is) ?_
  intro H d h₁ F₁ N₁ l1 l2
  have kl := N₁ _ (List.mem_cons_of_mem _ (List.mem_cons_of_mem _ hl))
  have k1 := N₁ _ (List.mem_cons_of_mem _ (List.mem_cons_of_mem _ h1))
  have k2 := N₁ _ (List.mem_cons_of_mem _ (List.mem_cons_of_mem _ h2))
  have kH := N₁ _ (List.Mem.head _)
  have kd := N₁ _ (List.Mem.tail _ (List.Mem.head _))
  refine enterR (n := 3) [(H, instObj 238 d), (d, dictOf [] 0), (l, lstO #[.ref r₁, .ref r₂] e)] TW (Frag.In.keeps X F₁.keep) ?_ ?_ (by k_is) (by k_is) (kp_binds (Frag.In.keeps X F₁.keep) (fun _ => rfl)) (locs rfl) ?_ (by decide)
  · intro p hp
    simp only [List.mem_cons, List.not_mem_nil, or_false] at hp
    rcases hp with rfl | rfl | rfl
    · exact ⟨kH.1, hi_new X kH.2.2⟩
    · exact ⟨kd.1, hi_new X kd.2.2⟩
    · exact ⟨kl.1, hi_new X kl.2.2⟩
  · have e1 : (Code.builtin "type.__call__" ⟨[.ref 238, .ref l], []⟩).weight ≤ 1 := Nat.le_of_ble_eq_true rfl
    have e2 : (Code.builtin "type.__call__" ⟨[.ref 238, .ref l], []⟩).cUnits ≤ 4 := Nat.le_of_ble_eq_true rfl
    exact ⟨RA.handled, by have := RA.depth; show A.depth + (Code.builtin "type.__call__" ⟨[.ref 238, .ref l], []⟩).weight + 4 ≤ 900; omega, by have := RA.units; show A.units + (Code.builtin "type.__call__" ⟨[.ref 238, .ref l], []⟩).cUnits + 10 * 4 ≤ 2000; omega⟩
  intro h₀' L' h₂ tk₂ F N X T₀ hup hdn hlt R₁
  have ne3 : ∀ {r : Addr} {vs : List Value}, h₁.get? r = some (tupO vs) → ∀ p ∈ [(H, instObj 238 d), (d, dictOf [] 0), (l, lstO #[.ref r₁, .ref r₂] e)], r ≠ p.1 := by
    intro r vs hr p hp
    simp only [List.mem_cons, List.not_mem_nil, or_false] at hp
    rcases hp with rfl | rfl | rfl
    · exact get_ne hr kH.1 (fun e => by cases e)
    · exact get_ne hr kd.1 (fun e => absurd (Value.type.inj e) (by decide))
    · exact get_ne hr kl.1 (fun e => absurd (Value.type.inj e) (by decide))
  have iT₁ : IsTup h₀' r₁ #[.str (Str.ofString "A") t1, .str (Str.ofString "-rw-r--r--") t2] := isTup_of (hup r₁ _ (ne3 k1.1) k1.1)
  have iT₂ : IsTup h₀' r₂ #[.str (Str.ofString "b") t3, .str (Str.ofString "-rwxr-xr-x") t4] := isTup_of (hup r₂ _ (ne3 k2.1) k2.1)
  have e1 : @LT.lt Nat _ l d := l1 _ hl
  have e2 : @LT.lt Nat _ d H := l2
  have e3 : @LT.lt Nat _ l H := Nat.lt_trans e1 e2
  have e4 : @Ne Nat l d := Nat.ne_of_lt e1
  have e5 : @Ne Nat d H := Nat.ne_of_lt e2
  have e6 : @Ne Nat l H := Nat.ne_of_lt e3
  (try dsimp only)
  k_steps
  (rename Fr _ _ _ _ => F)
  (rename News _ _ _ _ => N)
  refine conv_c (b := true) TW (Frag.In.keeps X F.keep) (R₁.less (by decide)) ⟨by decide +kernel, by decide +kernel⟩ ?_
  intro g0 tg0 up0
  have F := F.keeps up0
  have N := N.grown up0
  (try dsimp only)
  k_steps
  (rename Fr _ _ _ _ => F)
  (rename News _ _ _ _ => N)
  refine conv_c (b := false) TW (Frag.In.keeps X F.keep) (R₁.less (by decide)) ⟨by decide +kernel, by decide +kernel⟩ ?_
  intro g1 tg1 up1
  have F := F.keeps up1
  have N := N.grown up1
  (try dsimp only)
  k_steps
  (rename Fr _ _ _ _ => F)
  (rename News _ _ _ _ => N)
  refine conv_c (b := true) TW (Frag.In.keeps X F.keep) (R₁.less (by decide)) ⟨by decide +kernel, by decide +kernel⟩ ?_
  intro g2 tg2 up2
  have F := F.keeps up2
  have N := N.grown up2
  (try dsimp only)
  k_steps
  (rename Fr _ _ _ _ => F)
  (rename News _ _ _ _ => N)
  refine conv_c (b := false) TW (Frag.In.keeps X F.keep) (R₁.less (by decide)) ⟨by decide +kernel, by decide +kernel⟩ ?_
  intro g3 tg3 up3
  have F := F.keeps up3
  have N := N.grown up3
  (try dsimp only)
  k_steps
  (rename Fr _ _ _ _ => F)
  (rename News _ _ _ _ => N)
  have z1 := N _ (List.Mem.head _)
  have z2 := N _ (List.Mem.tail _ (List.Mem.head _))
  have z3 := N _ (List.Mem.tail _ (List.Mem.tail _ (List.Mem.head _)))
  have keep : ∀ b o, b ≠ H → b ≠ d → b ≠ l → h₁.get? b = some o → _ := fun b o n1 n2 n3 e => F.keep b o (hup b o (fun p hp => by
    simp only [List.mem_cons, List.not_mem_nil, or_false] at hp
    rcases hp with rfl | rfl | rfl
    · exact n1
    · exact n2
    · exact n3) e)
  refine ⟨rfl, hQ H d _ _ _ _ _ ⟨F₁.ns.at' fun o e => keep _ o (Ne.symm kH.2.1) (Ne.symm kd.2.1) (Ne.symm kl.2.1) e, fun b o e => ?_, F₁.above⟩ (news_back N₁ z1.1 z2.1 z3.1 kl.1 l1 l2 keep)⟩
  have ne : ∀ {c : Addr}, h₀.get? c = none → b ≠ c := fun hc q => by rw [q, hc] at e; cases e
  exact keep b o (ne kH.2.2) (ne kd.2.2) (ne kl.2.2) (F₁.keep b o e)
end
end
section
/-- a ledger over two heaps: what is turned of the old, what is new -/
structure Lg (h₀ h : Heap) (chg news : List (Addr × Obj)) : Prop where
  keep : ∀ b o, h₀.get? b = some o → (∀ p ∈ chg, p.1 ≠ b) → h.get? b = some o
  ch : ∀ p ∈ chg, h.get? p.1 = some p.2 ∧ ∃ o, h₀.get? p.1 = some o
  nw : ∀ p ∈ news, h.get? p.1 = some p.2 ∧ h₀.get? p.1 = none
  nd : (news.map (·.1)).Nodup
inductive Put (a : Addr) (o o' : Obj) : List (Addr × Obj) → List (Addr × Obj) → Prop
  | here {r} : Put a o o' ((a, o) :: r) ((a, o') :: r)
  | there {p r r'} : Put a o o' r r' → Put a o o' (p :: r) (p :: r')
theorem Put.at {a : Addr} {o o' : Obj} : ∀ {l l' : List (Addr × Obj)}, Put a o o' l l' → (a, o) ∈ l
  | _, _, .here => .head _
  | _, _, .there p => .tail _ p.at
theorem Put.keys {a : Addr} {o o' : Obj} : ∀ {l l' : List (Addr × Obj)}, Put a o o' l l' → l'.map (·.1) = l.map (·.1)
  | _, _, .here => rfl
  | _, _, .there p => congrArg (_ :: ·) p.keys
theorem Put.or {a : Addr} {o o' : Obj} : ∀ {l l' : List (Addr × Obj)}, Put a o o' l l' → (l.map (·.1)).Nodup → ∀ q ∈ l', q = (a, o') ∨ (q ∈ l ∧ q.1 ≠ a)
  | _, _, .here, nd, q, hq => by
    rw [List.map_cons, List.nodup_cons] at nd
    rcases List.mem_cons.mp hq with rfl | hq
    · exact .inl rfl
    · exact .inr ⟨.tail _ hq, fun e => nd.1 (List.mem_map.mpr ⟨q, hq, e⟩)⟩
  | _, _, .there p, nd, q, hq => by
    rw [List.map_cons, List.nodup_cons] at nd
    rcases List.mem_cons.mp hq with rfl | hq
    · exact .inr ⟨.head _, fun e => nd.1 (e ▸ List.mem_map_of_mem p.at)⟩
    · rcases p.or nd.2 q hq with h | h
      · exact .inl h
      · exact .inr ⟨.tail _ h.1, h.2⟩
theorem Lg.start (h : Heap) : Lg h h [] [] := ⟨fun _ _ e _ => e, fun _ hp => (nomatch hp), fun _ hp => (nomatch hp), List.nodup_nil⟩
section
variable {h₀ h h' : Heap} {chg news news' more : List (Addr × Obj)} {a : Addr} {o : Obj}
theorem Lg.there (D : Lg h₀ h chg news) {b : Addr} {o : Obj} (e : h₀.get? b = some o) : ∃ o', h.get? b = some o' := by
  by_cases q : ∃ p ∈ chg, p.1 = b
  · obtain ⟨p, hp, rfl⟩ := q
    exact ⟨_, (D.ch p hp).1⟩
  · exact ⟨o, D.keep b o e fun p hp z => q ⟨p, hp, z⟩⟩
theorem Lg.alloc (D : Lg h₀ h chg news) (hf : o.isFreed = false) : Lg h₀ (h.push o) chg ((h.objs.size, o) :: news) := by
  refine ⟨fun b o' e q => Heap.get?_push_of_some _ (D.keep b o' e q), fun p hp => ⟨Heap.get?_push_of_some _ (D.ch p hp).1, (D.ch p hp).2⟩, fun p hp => ?_, ?_⟩
  · rcases List.mem_cons.mp hp with rfl | hp
    · refine ⟨Heap.get?_push_size _ hf, ?_⟩
      cases q : h₀.get? h.objs.size with
      | none => rfl
      | some o' =>
        obtain ⟨o₂, e₂⟩ := D.there q
        exact absurd (Heap.lt_size e₂) (Nat.lt_irrefl _)
    · exact ⟨Heap.get?_push_of_some _ (D.nw p hp).1, (D.nw p hp).2⟩
  · rw [List.map_cons, List.nodup_cons]
    refine ⟨fun hm => ?_, D.nd⟩
    obtain ⟨p, hp, e⟩ := List.mem_map.mp hm
    have := Heap.lt_size (D.nw p hp).1
    rw [e] at this; exact absurd this (Nat.lt_irrefl _)
theorem Lg.update {f : Obj → Obj} (D : Lg h₀ h chg news) (hp : Put a o (f o) news news') (hf : (f o).isFreed = false) : Lg h₀ (h.update a f) chg news' := by
  have ha := D.nw _ hp.at
  have hs : Heap.SameBut a h (h.update a f) := Heap.SameBut.update ..
  have ge : (h.update a f).get? a = some (f o) := by first | exact Heap.get?_update_self f ha.1 hf | exact Heap.get?_update_self _ ha.1 hf
  have ne : ∀ b o', h₀.get? b = some o' → b ≠ a := fun b o' e z => by rw [z, ha.2] at e; cases e
  refine ⟨fun b o' e q => (hs.2 b (ne b o' e)).trans (D.keep b o' e q), fun p hp' => ?_, fun p hp' => ?_, by rw [hp.keys]; exact D.nd⟩
  · obtain ⟨o', e'⟩ := (D.ch p hp').2
    exact ⟨(hs.2 p.1 (ne _ _ e')).trans (D.ch p hp').1, o', e'⟩
  · rcases hp.or D.nd p hp' with rfl | ⟨h1, h2⟩
    · exact ⟨ge, ha.2⟩
    · exact ⟨(hs.2 _ h2).trans (D.nw p h1).1, (D.nw p h1).2⟩
/-- an old object is turned -/
theorem Lg.turn {f : Obj → Obj} (D : Lg h₀ h [] news) (h0 : h₀.get? a = some o) (hf : (f o).isFreed = false) : Lg h₀ (h.update a f) [(a, f o)] news := by
  have ho := D.keep a o h0 fun _ hp => nomatch hp
  have hs : Heap.SameBut a h (h.update a f) := Heap.SameBut.update ..
  have ge : (h.update a f).get? a = some (f o) := by first | exact Heap.get?_update_self f ho hf | exact Heap.get?_update_self _ ho hf
  refine ⟨fun b o' e q => (hs.2 b (fun z => q _ (List.Mem.head _) z.symm)).trans (D.keep b o' e fun _ hp => nomatch hp), fun p hp => ?_, fun p hp => ⟨(hs.2 _ fun z => ?_).trans (D.nw p hp).1, (D.nw p hp).2⟩, D.nd⟩
  · rw [List.mem_singleton.mp hp]; exact ⟨ge, o, h0⟩
  · have := (D.nw p hp).2; rw [z, h0] at this; cases this
theorem Lg.add (D : Lg h₀ h chg news) (D' : Mem h h' [] more) : Lg h₀ h' chg (more ++ news) := by
  have up : ∀ b o, h.get? b = some o → h'.get? b = some o := fun b o e => D'.keep b o e (by simp [away])
  refine ⟨fun b o e q => up _ _ (D.keep b o e q), fun p hp => ⟨up _ _ (D.ch p hp).1, (D.ch p hp).2⟩, fun p hp => ?_, ?_⟩
  · rcases List.mem_append.mp hp with hp | hp
    · refine ⟨(D'.nw p hp).1, ?_⟩
      cases q : h₀.get? p.1 with
      | none => rfl
      | some o =>
        obtain ⟨o', e'⟩ := D.there q
        have := (D'.nw p hp).2
        rw [e'] at this; cases this
    · exact ⟨up _ _ (D.nw p hp).1, (D.nw p hp).2⟩
  · rw [List.map_append]
    refine List.nodup_append.mpr ⟨?_, D.nd, fun a ha b hb e => ?_⟩
    · exact (D'.ord.imp fun h => Nat.ne_of_gt h)
    · obtain ⟨p, hp, rfl⟩ := List.mem_map.mp ha
      obtain ⟨q, hq, rfl⟩ := List.mem_map.mp hb
      have := (D'.nw p hp).2
      rw [e, (D.nw q hq).1] at this; cases this
theorem Lg.ne (D : Lg h₀ h chg news) {a b : Addr} {oa ob : Obj} (ha : (a, oa) ∈ news) (hb : h₀.get? b = some ob) : a ≠ b := fun e => by
  have := (D.nw _ ha).2
  rw [e, hb] at this; cases this
theorem Lg.nel (D : Lg h₀ h chg news) {a b : Addr} {oa ob : Obj} {l r : List (Addr × Obj)} (e : news = l ++ (a, oa) :: r) (hb : (b, ob) ∈ r) : a ≠ b := fun z => by
  have := D.nd
  rw [e, List.map_append, List.map_cons] at this
  have := (List.nodup_append.mp this).2.1
  rw [List.nodup_cons] at this
  exact this.1 (List.mem_map.mpr ⟨(b, ob), hb, z.symm⟩)
end
theorem lg_KK {P : Params} {h₀ h : Heap} {chg news : List (Addr × Obj)} (X : (KK P).In h₀) (D : Lg h₀ h chg news) (hc : ∀ p ∈ chg, (KK P).lookup p.1 = none) : (KK P).In h := by
  intro b o e
  refine D.keep b o (X b o e) fun p hp q => ?_
  have := hc p hp; rw [q, e] at this; cases this
theorem no33 (P : Params) : (KK P).lookup 33 = none := by kernel_rfl
theorem nochg {b : Addr} : ∀ p ∈ ([] : List (Addr × Obj)), p.1 ≠ b := fun _ h => nomatch h
theorem chg0 {P : Params} : ∀ p ∈ ([] : List (Addr × Obj)), (KK P).lookup p.1 = none := fun _ h => nomatch h
theorem chg33 {P : Params} (o : Obj) : ∀ p ∈ [((33 : Addr), o)], (KK P).lookup p.1 = none := by
  intro p hp
  rw [List.mem_singleton.mp hp]; exact no33 P
section
variable {α : Type} {prog : Program} {w : World} {A : Around} {E : Value → Shared → Prop} {h₀ h : Heap} {chg news news' : List (Addr × Obj)} {g : Array GenState} {d : Drawn} {t : Nat} {os : OsState}
theorem m_alloc {o : Obj} {Q : Addr → Shared → Prop} (D : Lg h₀ h chg news) (hf : o.isFreed = false) (x : ∀ a h', Lg h₀ h' chg ((a, o) :: news) → Q a ⟨h', g, d, t, os⟩) :
    wpAny (model prog w) A (alloc o) Q E ⟨h, g, d, t, os⟩ := wpAny_alloc (x _ _ (D.alloc hf))
theorem m_loadPart {a : Addr} {o : Obj} {q : Option Value} {Q : Obj → Shared → Prop} (D : Lg h₀ h chg news) (hm : (a, o) ∈ news) (x : Q o ⟨h, g, d, t, os⟩) :
    wpAny (model prog w) A (loadPart a q) Q E ⟨h, g, d, t, os⟩ := wpAny_loadPart (D.nw _ hm).1 x
theorem m_load {a : Addr} {o : Obj} {Q : Obj → Shared → Prop} (D : Lg h₀ h chg news) (hm : (a, o) ∈ news) (x : Q o ⟨h, g, d, t, os⟩) :
    wpAny (model prog w) A (load a) Q E ⟨h, g, d, t, os⟩ := wpAny_load (D.nw _ hm).1 x
theorem m_updPart {a : Addr} {o : Obj} {q : Option Value} {f : Obj → Obj} {Q : Unit → Shared → Prop} (D : Lg h₀ h chg news) (hp : Put a o (f o) news news') (hf : (f o).isFreed = false) (x : ∀ h', Lg h₀ h' chg news' → Q () ⟨h', g, d, t, os⟩) :
    wpAny (model prog w) A (updatePart a q f) Q E ⟨h, g, d, t, os⟩ := wpAny_updatePart (D.nw _ hp.at).1 (x _ (D.update hp hf))
theorem m_upd {a : Addr} {o : Obj} {f : Obj → Obj} {Q : Unit → Shared → Prop} (D : Lg h₀ h chg news) (hp : Put a o (f o) news news') (hf : (f o).isFreed = false) (x : ∀ h', Lg h₀ h' chg news' → Q () ⟨h', g, d, t, os⟩) :
    wpAny (model prog w) A (update a f) Q E ⟨h, g, d, t, os⟩ := wpAny_update (D.nw _ hp.at).1 (x _ (D.update hp hf))
theorem m_turn {a : Addr} {o o' : Obj} {f : Obj → Obj} {Q : Unit → Shared → Prop} (D : Lg h₀ h [] news) (h0 : h₀.get? a = some o) (e : f o = o') (hf : o'.isFreed = false) (x : ∀ h', Lg h₀ h' [(a, o')] news → Q () ⟨h', g, d, t, os⟩) :
    wpAny (model prog w) A (update a f) Q E ⟨h, g, d, t, os⟩ := by
  subst e
  exact wpAny_update (D.keep a o h0 fun _ hp => nomatch hp) (x _ (D.turn h0 hf))
theorem m_loadC {a : Addr} {o : Obj} {Q : Obj → Shared → Prop} (D : Lg h₀ h chg news) (hm : (a, o) ∈ chg) (x : Q o ⟨h, g, d, t, os⟩) :
    wpAny (model prog w) A (load a) Q E ⟨h, g, d, t, os⟩ := wpAny_load (D.ch _ hm).1 x
theorem m_loadK {a : Addr} {o : Obj} {Q : Obj → Shared → Prop} (X : (KK w.params).In h₀) (D : Lg h₀ h chg news) (hc : ∀ p ∈ chg, (KK w.params).lookup p.1 = none) (e : (KK w.params).lookup a = some o) (x : Q o ⟨h, g, d, t, os⟩) :
    wpAny (model prog w) A (load a) Q E ⟨h, g, d, t, os⟩ := wpAny_load (lg_KK X D hc _ _ e) x
theorem m_loadPartK {a : Addr} {o : Obj} {q : Option Value} {Q : Obj → Shared → Prop} (X : (KK w.params).In h₀) (D : Lg h₀ h chg news) (hc : ∀ p ∈ chg, (KK w.params).lookup p.1 = none) (e : (KK w.params).lookup a = some o) (x : Q o ⟨h, g, d, t, os⟩) :
    wpAny (model prog w) A (loadPart a q) Q E ⟨h, g, d, t, os⟩ := wpAny_loadPart (lg_KK X D hc _ _ e) x
theorem m_nsGetK {ns : Addr} {name : Str} {r : Option Value} {Q : Option Value → Shared → Prop} (X : (KK w.params).In h₀) (D : Lg h₀ h chg news) (hc : ∀ p ∈ chg, (KK w.params).lookup p.1 = none) (e : nsIn (KK w.params) ns name = some r) (x : Q r ⟨h, g, d, t, os⟩) :
    wpAny (model prog w) A (nsGet ns name) Q E ⟨h, g, d, t, os⟩ := Looks.here (looks_nsIn (lg_KK X D hc) e) x
theorem m_peek {r : α} {tr : Sem α} {Q : α → Shared → Prop} (X : (KK w.params).In h₀) (D : Lg h₀ h chg news) (hc : ∀ p ∈ chg, (KK w.params).lookup p.1 = none) (e : peek (KK w.params) ⟨prog, w.params⟩ tr = some r) (x : Q r ⟨h, g, d, t, os⟩) : wpAny (model prog w) A tr Q E ⟨h, g, d, t, os⟩ :=
  Looks.here (Looks.of_peek (lg_KK X D hc) e) x
inductive Spl (a : Addr) (o : Obj) : List (Addr × Obj) → List (Addr × Obj) → List (Addr × Obj) → Prop
  | here {r} : Spl a o ((a, o) :: r) [] r
  | there {p l l1 r} : Spl a o l l1 r → Spl a o (p :: l) (p :: l1) r
theorem Spl.put {a : Addr} {o o' : Obj} : ∀ {l l1 r : List (Addr × Obj)}, Spl a o l l1 r → Put a o o' l (l1 ++ (a, o') :: r)
  | _, _, _, .here => .here
  | _, _, _, .there s => .there s.put
noncomputable abbrev dObj (c : Value) (dd : Option Addr) (sl : Array (Option Value)) (es : List DictEntry) (n : Nat) : Obj := ⟨c, dd, .dict es.toArray n, sl⟩
theorem m_nsSet {ns : Addr} {name : Str} {v c : Value} {dd : Option Addr} {sl : Array (Option Value)} {es : List DictEntry} {n n' : Nat} {es' : Int → Tok → List DictEntry} {l r : List (Addr × Obj)} {Q : Unit → Shared → Prop} (D : Lg h₀ h chg news) (hs : Spl ns (dObj c dd sl es n) news l r)
    (hr : aRefKeyMayBeTheName name es.toArray = false) (he : ∀ hh kt, Obj.putName name hh (.str name kt) v (dObj c dd sl es n) = dObj c dd sl (es' hh kt) n')
    (x : ∀ hh kt h', Lg h₀ h' chg (l ++ (ns, dObj c dd sl (es' hh kt) n') :: r) → Q () ⟨h', g, d, t + 1, os⟩) : wpAny (model prog w) A (nsSet ns name v) Q E ⟨h, g, d, t, os⟩ := by
  unfold nsSet strHash
  refine wpAny_bind (wpAny_bind (wpAny_askSetting (wpAny_pure (wpAny_bind (wpAny_mkText (wpAny_bind (wpAny_loadPart (D.nw _ (hs.put (o' := dObj c dd sl es n)).at).1 ?_)))))))
  dsimp only
  rw [if_neg (by rw [hr]; exact Bool.false_ne_true)]
  refine wpAny_updatePart (D.nw _ (hs.put (o' := dObj c dd sl es n)).at).1 (x (if name.cps.isEmpty = true then 0 else reduceHash (w.params.strHash name.cps)) t _ (D.update (o := dObj c dd sl es n) (f := Obj.putName name (if name.cps.isEmpty = true then 0 else reduceHash (w.params.strHash name.cps)) (.str name t) v) ?_ (by rw [he]; rfl)))
  rw [he]; exact hs.put
theorem m_nsSetNew {ns : Addr} {name : Str} {v c : Value} {dd : Option Addr} {sl : Array (Option Value)} {es : List DictEntry} {n : Nat} {l r : List (Addr × Obj)} {Q : Unit → Shared → Prop} (D : Lg h₀ h chg news) (hs : Spl ns (dObj c dd sl es n) news l r)
    (hr : aRefKeyMayBeTheName name es.toArray = false) (he : ∀ hh kt, Obj.putName name hh (.str name kt) v (dObj c dd sl es n) = dObj c dd sl (es ++ [⟨hh, .str name kt, v⟩]) (n + 1))
    (x : ∀ hh kt h', Lg h₀ h' chg (l ++ (ns, dObj c dd sl (es ++ [⟨hh, .str name kt, v⟩]) (n + 1)) :: r) → Q () ⟨h', g, d, t + 1, os⟩) : wpAny (model prog w) A (nsSet ns name v) Q E ⟨h, g, d, t, os⟩ :=
  m_nsSet (es' := fun hh kt => es ++ [⟨hh, .str name kt, v⟩]) D hs hr he x
theorem m_nsSetMod {ns : Addr} {name : Str} {v c : Value} {dd : Option Addr} {sl : Array (Option Value)} {es : List DictEntry} {n : Nat} {l r : List (Addr × Obj)} {Q : Unit → Shared → Prop} (D : Lg h₀ h chg news) (hs : Spl ns (dObj c dd sl es n) news l r)
    (hr : aRefKeyMayBeTheName name es.toArray = false) (he : ∀ hh kt, Obj.putName name hh (.str name kt) v (dObj c dd sl es n) = dObj c dd sl (es.map fun e => if e.key.isStr name then { e with val := v } else e) n)
    (x : ∀ h', Lg h₀ h' chg (l ++ (ns, dObj c dd sl (es.map fun e => if e.key.isStr name then { e with val := v } else e) n) :: r) → Q () ⟨h', g, d, t + 1, os⟩) : wpAny (model prog w) A (nsSet ns name v) Q E ⟨h, g, d, t, os⟩ :=
  m_nsSet (es' := fun _ _ => es.map fun e => if e.key.isStr name then { e with val := v } else e) D hs hr he fun _ _ h' => x h'
theorem m_nsDel {ns : Addr} {name : Str} {c : Value} {dd : Option Addr} {sl : Array (Option Value)} {es : List DictEntry} {n : Nat} {l r : List (Addr × Obj)} {Q : Bool → Shared → Prop} (D : Lg h₀ h chg news) (hs : Spl ns (dObj c dd sl es n) news l r)
    (hh : nsHas name (dObj c dd sl es n) = pure true) (he : Obj.dropName name (dObj c dd sl es n) = dObj c dd sl (es.filter fun e => !e.key.isStr name) (n + 1))
    (x : ∀ h', Lg h₀ h' chg (l ++ (ns, dObj c dd sl (es.filter fun e => !e.key.isStr name) (n + 1)) :: r) → Q true ⟨h', g, d, t, os⟩) : wpAny (model prog w) A (nsDel ns name) Q E ⟨h, g, d, t, os⟩ := by
  unfold nsDel
  refine wpAny_bind (wpAny_loadPart (D.nw _ (hs.put (o' := dObj c dd sl es n)).at).1 (wpAny_bind (wpAny_of_eq hh ?_)))
  rw [if_pos rfl]
  refine wpAny_bind (wpAny_updatePart (D.nw _ (hs.put (o' := dObj c dd sl es n)).at).1 (wpAny_pure (x _ (D.update (o := dObj c dd sl es n) ?_ (by rw [he]; rfl)))))
  rw [he]; exact hs.put
theorem m_nsGet {ns : Addr} {name : Str} {o : Obj} {rv : Option Value} {Q : Option Value → Shared → Prop} (D : Lg h₀ h chg news) (hm : (ns, o) ∈ news) (e : nsLook name o = pure rv) (x : Q rv ⟨h, g, d, t, os⟩) :
    wpAny (model prog w) A (nsGet ns name) Q E ⟨h, g, d, t, os⟩ := by
  unfold nsGet
  exact wpAny_bind (wpAny_loadPart (D.nw _ hm).1 (wpAny_of_eq e x))
noncomputable def IsCodeO (o : Obj) (P : Addr) : Prop :=
  ∃ vs file tf flags tg inF text tt, o.cls = .type "code" ∧ o.data = .fields vs ∧ vs[11]? = some (.ref P) ∧ vs.getD 11 .none = .ref P ∧ vs.getD 18 .none = .str file tf ∧ vs.getD 7 .none = .int flags tg ∧ vs.getD 9 .none = .bool inF ∧ vs.getD 10 .none = .int text tt
theorem codeHd_of {h : Heap} {c P : Addr} {o : Obj} (I : IsCodeO o P) (e : h.get? c = some o) (ne : c ≠ P) : CodeHd h c P := by
  obtain ⟨vs, file, tf, flags, tg, inF, text, tt, h1, h2, h3, h4, h5, h6, h7, h8⟩ := I
  exact ⟨o, vs, file, tf, flags, tg, inF, text, tt, e, h1, h2, h3, h4, h5, h6, h7, h8, ne⟩
theorem m_makeFn {p : Program} {loose : List Str} {mg mb : Str → Option Value} {name qual : Str} {params : Arguments} {body : List Stmt} {scope : Scope} {env : Env} {c P : Addr} {ps : Array Value} {pos : Pos} {firstLine : Nat} {clos : List (Str × Addr)} {oC : Obj} {l r : List (Addr × Obj)} {Q : Value → Shared → Prop}
    (TW : Tops w p loose mg mb) (X : (KK w.params).In h₀) (D : Lg h₀ h chg news) (hc : ∀ p ∈ chg, (KK w.params).lookup p.1 = none) (I : IsCodeO oC P) (hne : c ≠ P) (hm : (c, oC) ∈ news) (hs : Spl P (tabObj ps) news l r) (hcl : closureFor scope env = pure clos) (hge0 : env.globals = mainGlobals) (hcode : env.code = .ref c) (ht : TriplesOk ps.toList)
    (hnf : codeAmong pos ps.toList = none)
    (x : ∀ f c' oc' vs tq ctv doc h' tk, Lg h₀ h' chg ((f, fnMade name qual params body scope clos doc ((mg "__name__").getD .none) c' ctv) :: (c', oc') :: (l ++ (P, tabObj (ps ++ #[rawInt pos.line, rawInt pos.col, .ref c'])) :: r)) → oc'.data = .fields vs → vs[1]? = some (.str qual tq) → Q (.ref f) ⟨h', g, d, tk, os⟩) :
    wpAny (model prog w) A (makeFunction name qual params (.stmts body) scope env [] [] [] pos firstLine) Q E ⟨h, g, d, t, os⟩ := by
  have XH := lg_KK X D hc
  have T := TW _ XH
  have hP := D.nw _ (hs.put (o' := tabObj ps)).at
  have hPn : ∀ b o, h₀.get? b = some o → b ≠ P := fun b o e z => by rw [z, hP.2] at e; cases e
  have hPK : ∀ b o, (KK w.params).lookup b = some o → b ≠ P := fun b o e => hPn b o (X b o e)
  have hb4 : mg "__builtins__" = some (.ref 4) := mg_of XH T.g (by kernel_rfl)
  obtain ⟨o3, _, _, e3, _⟩ := (TW h₀ X).g
  have k4 : (KK w.params).lookup 4 = some { cls := .type "module", dict := some 0 } := by kernel_rfl
  refine makeFunction_K (mg := mg) hcl hge0 T.g hcode (codeHd_of I (D.nw _ hm).1 hne) hP.1 ht hnf (hPn _ _ e3) ⟨4, _, hb4, by decide, by decide, hPK 4 _ k4, XH 4 _ k4, rfl, rfl, rfl⟩ fun c' ctv doc h' tk hx hge hlt hrec htb => ?_
  obtain ⟨c₂, oc, vs, tq, e2, hoc, hd, hv⟩ := hrec
  cases e2
  replace hge : h.objs.size ≤ c' := hge
  have old : ∀ b o, h.get? b = some o → b ≠ P → h'.get? b = some o := fun b o e n => hx b o n e
  have n0 : ∀ b, h.objs.size ≤ b → h₀.get? b = none := fun b hb => by
    cases q : h₀.get? b with
    | none => rfl
    | some o =>
      obtain ⟨o', e'⟩ := D.there q
      exact absurd (Heap.lt_size e') (Nat.not_lt_of_le hb)
  refine x h'.objs.size c' oc vs tq ctv doc _ tk ⟨fun b o e q => Heap.get?_push_of_some _ (old b o (D.keep b o e q) (hPn b o e)), fun q hq => ?_, fun q hq => ?_, ?_⟩ hd hv
  · obtain ⟨o, e⟩ := (D.ch q hq).2
    exact ⟨Heap.get?_push_of_some _ (old _ _ (D.ch q hq).1 (hPn _ _ e)), o, e⟩
  · rcases List.mem_cons.mp hq with rfl | hq
    · exact ⟨Heap.get?_push_size _ rfl, n0 _ (Nat.le_trans hge (Nat.le_of_lt hlt))⟩
    rcases List.mem_cons.mp hq with rfl | hq
    · exact ⟨Heap.get?_push_of_some _ hoc, n0 _ hge⟩
    rcases (hs.put).or D.nd q hq with rfl | ⟨h1, h2⟩
    · exact ⟨Heap.get?_push_of_some _ htb, hP.2⟩
    · exact ⟨Heap.get?_push_of_some _ (old _ _ (D.nw q h1).1 h2), (D.nw q h1).2⟩
  · rw [List.map_cons, List.map_cons, List.nodup_cons, List.nodup_cons, List.mem_cons]
    have keys := (hs.put (o' := tabObj (ps ++ #[rawInt pos.line, rawInt pos.col, .ref c']))).keys
    rw [keys]
    have low : ∀ b ∈ news.map (·.1), b < h.objs.size := fun b hb => by
      obtain ⟨q, hq, rfl⟩ := List.mem_map.mp hb
      exact Heap.lt_size (D.nw q hq).1
    refine ⟨fun hm => ?_, fun hm => ?_, D.nd⟩
    · rcases hm with hm | hm
      · have hm : h'.objs.size = c' := hm
        omega
      · have := low _ hm; dsimp only at this; omega
    · have := low _ hm; dsimp only at this; omega
theorem exec_hold {st : Stmt} {rest : List Stmt} {env : Env} {Q : Flow → Shared → Prop} {s : Shared} (x : wpAny (model prog w) A (exec st env) (fun f s' => f = .next ∧ Hold (wpAny (model prog w) A (execs rest env) Q E s')) E s) : wpAny (model prog w) A (execs (st :: rest) env) Q E s :=
  wpAny_execs_cons (wpAny_mono x (fun f s' hf => by obtain ⟨rfl, hf⟩ := hf; exact hf) fun _ _ e => e)
theorem m_collect {a : Addr} {vs : List Value} {e : Nat} {Q : List Value → Shared → Prop} (D : Lg h₀ h chg news) (ha : h.get? a = some { cls := .type "list", data := .seq vs.toArray e }) (hz : vs.length ≤ sizeLine)
    (x : ∀ b h', Lg h₀ h' chg ((b, Obj.mapSeq (· ++ vs.toArray) (seqObj "list" #[] 0)) :: news) → Q vs ⟨h', g, d, t, os⟩) : wpAny (model prog w) A (collect (.ref a)) Q E ⟨h, g, d, t, os⟩ := by
  refine collect_list (s := ⟨h, g, d, t, os⟩) (vs := vs) ⟨_, ha, rfl, _, rfl⟩ ?_ hz
  exact x _ _ ((D.alloc (o := seqObj "list" #[] 0) rfl).update Put.here rfl)
theorem m_tryCatch {m : Sem α} {k : Value → Sem α} {Q : α → Shared → Prop} {s : Shared} (x : wpAny (model prog w) A m Q (fun e s' => wpAny (model prog w) A (k e) Q E s') s) : wpAny (model prog w) A (Sem.tryCatch m k) Q E s := wpAny_tryCatch x
theorem Lg.join (D : Lg h₀ h chg news) {h' : Heap} {more : List (Addr × Obj)} (D' : Lg h h' [] more) : Lg h₀ h' chg (more ++ news) := by
  have up : ∀ b o, h.get? b = some o → h'.get? b = some o := fun b o e => D'.keep b o e nochg
  refine ⟨fun b o e q => up _ _ (D.keep b o e q), fun p hp => ⟨up _ _ (D.ch p hp).1, (D.ch p hp).2⟩, fun p hp => ?_, ?_⟩
  · rcases List.mem_append.mp hp with hp | hp
    · refine ⟨(D'.nw p hp).1, ?_⟩
      cases q : h₀.get? p.1 with
      | none => rfl
      | some o =>
        obtain ⟨o', e'⟩ := D.there q
        have := (D'.nw p hp).2
        rw [e'] at this; cases this
    · exact ⟨up _ _ (D.nw p hp).1, (D.nw p hp).2⟩
  · rw [List.map_append]
    refine List.nodup_append.mpr ⟨D'.nd, D.nd, fun a ha b hb e => ?_⟩
    obtain ⟨p, hp, rfl⟩ := List.mem_map.mp ha
    obtain ⟨q, hq, rfl⟩ := List.mem_map.mp hb
    have := (D'.nw p hp).2
    rw [e, (D.nw q hq).1] at this; cases this
noncomputable abbrev A4 : Around := { handled := none, depth := 896, frames := none, guards := none, units := 1960 }
theorem weaken4 {β : Type} {M : Model} {A : Around} {t : Sem β} {Q : β → Shared → Prop} {E : Value → Shared → Prop} {s : Shared} (RA : Room 4 A) (h : wpAny M A4 t Q E s) : wpAny M A t Q E s :=
  fun Γ p hΓ => h Γ p ⟨hΓ.1.trans RA.handled, Nat.le_trans hΓ.2.1 (by have := RA.depth; show A.depth ≤ 896; omega), fun _ e => (nomatch e), fun _ e => (nomatch e), Nat.le_trans hΓ.2.2.2.2 (by have := RA.units; show A.units ≤ 1960; omega)⟩
theorem Lg.dropl (D : Lg h₀ h chg (news' ++ news)) : Lg h₀ h chg news := by
  refine ⟨D.keep, D.ch, fun p hp => D.nw p (List.mem_append_right _ hp), ?_⟩
  have := D.nd
  rw [List.map_append] at this
  exact (List.nodup_append.mp this).2.1
theorem Lg.cast (D : Lg h₀ h chg news) (e : news = news') : Lg h₀ h chg news' := e ▸ D
noncomputable abbrev clsK (aK aNs bt : Addr) (tN : Tok) (q : Str) (t2 : Tok) : Obj := { cls := .type "type", data := .cls { name := Str.ofString "K", bases := [.type "object"], mro := [.ref aK, .type "object"], ns := aNs, qualname := q, hasDict := false, slotNames := [Str.ofString "obj"] }, slots := #[some (.ref bt), none, some (.str (Str.ofString "K") tN), some (.str q t2), some (.builtin "object.__new__"), some (.bool false)] }
noncomputable abbrev dscK (aK : Addr) (tD : Tok) : Obj := { cls := .type "member_descriptor", data := .fields #[.str (Str.ofString "obj") tD, .ref aK, .builtin "proto.slot", .builtin "proto.slot#set", .int 0 0] }
end
section
variable {α β : Type} {M : Model} {A : Around} {E : Value → Shared → Prop} {s : Shared}
noncomputable def bQ (M : Model) (A : Around) (f : α → Sem β) (Q : β → Shared → Prop) (E : Value → Shared → Prop) : α → Shared → Prop := fun a s' => wpAny M A (f a) Q E s'
noncomputable def eQ (M : Model) (A : Around) (k : Value → Sem Unit) (E : Value → Shared → Prop) : Value → Shared → Prop := fun e s' => wpAny M A (k e) (fun _ s'' => E e s'') E s'
noncomputable def tE (M : Model) (A : Around) (k : Value → Sem α) (Q : α → Shared → Prop) (E : Value → Shared → Prop) : Value → Shared → Prop := fun e s' => wpAny M A (k e) Q E s'
noncomputable def aQ (Q : Except Value α → Shared → Prop) : α → Shared → Prop := fun a => Q (.ok a)
noncomputable def aE (Q : Except Value α → Shared → Prop) : Value → Shared → Prop := fun e => Q (.error e)
theorem bq {m : Sem α} {f : α → Sem β} {Q : β → Shared → Prop} (h : wpAny M A m (bQ M A f Q E) E s) : wpAny M A (m >>= f) Q E s := wpAny_bind h
theorem bq_go {f : α → Sem β} {Q : β → Shared → Prop} {a : α} (h : wpAny M A (f a) Q E s) : bQ M A f Q E a s := h
theorem eq_in {m : Sem α} {k : Value → Sem Unit} {Q : α → Shared → Prop} (h : wpAny M A m Q (eQ M A k E) s) : wpAny M A (m.onRaise k) Q E s := wpAny_onRaise h
theorem eq_go {k : Value → Sem Unit} {e : Value} (h : wpAny M A (k e) (fun _ s'' => E e s'') E s) : eQ M A k E e s := h
theorem te_in {m : Sem α} {k : Value → Sem α} {Q : α → Shared → Prop} (h : wpAny M A m Q (tE M A k Q E) s) : wpAny M A (tryCatch m k) Q E s := wpAny_tryCatch h
theorem te_in' {m : Sem α} {k : Value → Sem α} {Q : α → Shared → Prop} (h : wpAny M A m Q (tE M A k Q E) s) : wpAny M A (Sem.tryCatch m k) Q E s := wpAny_tryCatch h
theorem te_go {k : Value → Sem α} {Q : α → Shared → Prop} {e : Value} (h : wpAny M A (k e) Q E s) : tE M A k Q E e s := h
theorem aq_in {m : Sem α} {Q : Except Value α → Shared → Prop} (h : wpAny M A m (aQ Q) (aE Q) s) : wpAny M A m.attempt Q E s := wpAny_attempt h
theorem aq_go {Q : Except Value α → Shared → Prop} {a : α} (h : Q (.ok a) s) : aQ Q a s := h
theorem ae_go {Q : Except Value α → Shared → Prop} {e : Value} (h : Q (.error e) s) : aE Q e s := h
end
section
variable {α : Type} {M : Model} {A : Around} {E : Value → Shared → Prop} {s : Shared} {R : Result → Shared → Prop}
noncomputable def rvQ (Q E : Value → Shared → Prop) : Result → Shared → Prop := fun r s' => match r with | .ok (.ret v) => Q v s' | .ok _ => False | .error e => E e s'
noncomputable def finQ (M : Model) (A : Around) (R : Result → Shared → Prop) : Fin → Shared → Prop := fun fin s' => match fin with | .done f => R (.ok f) s' | .again c' => c'.quiet = true ∧ codeAny M A c' R s'
noncomputable def errR (R : Result → Shared → Prop) : Value → Shared → Prop := fun e s' => R (.error e) s'
theorem rv_go {Q : Value → Shared → Prop} {v : Value} (h : Q v s) : rvQ Q E (.ok (.ret v)) s := h
theorem rv_err {Q : Value → Shared → Prop} {e : Value} (h : E e s) : rvQ Q E (.error e) s := h
theorem fin_done {f : Flow} (h : R (.ok f) s) : finQ M A R (.done f) s := h
theorem fin_again {c : Code} (h : c.quiet = true ∧ codeAny M A c R s) : finQ M A R (.again c) s := h
theorem err_go {e : Value} (h : R (.error e) s) : errR R e s := h
theorem call_q {f : Value} {pos : List Value} {kw : List (Str × Value)} {Q : Value → Shared → Prop} (h : codeAny M A (.call f ⟨pos, kw⟩) (rvQ Q E) s) : wpAny M A (call f pos kw) Q E s := wpAny_call h
theorem run_q {c : Code} {Q : Value → Shared → Prop} (h : codeAny M A c (rvQ Q E) s) : wpAny M A (runValue c) Q E s := wpAny_runValue h
theorem tree_q {c : Code} (h : wpAny M (A.under c) (M.den c) (finQ M A R) (errR R) s) : codeAny M A c R s := codeAny_of_tree h
theorem builtin_q {prog : Program} {w : World} {id : String} {args : Args} {b : Builtin} (hb : entryFor table id = some b) (h : wpAny (model prog w) (A.under (.builtin id args)) (b args) (finQ (model prog w) A R) (errR R) s) : codeAny (model prog w) A (.builtin id args) R s := codeAny_builtin hb h
theorem callb_q {prog : Program} {w : World} {id : String} {args : Args} {b : Builtin} (hq : plainId id = true) (hb : entryFor table id = some b)
    (h : wpAny (model prog w) A.in1 (checkBuiltinCall id args) (fun _ s₁ => wpAny (model prog w) A.in1 (b args) (finQ (model prog w) A R) (errR R) s₁) (errR R) s) : codeAny (model prog w) A (.call (.builtin id) args) R s := codeAny_call_builtin hq hb h
theorem callb_at_q {prog : Program} {w : World} {id : String} {args : Args} {b : Builtin} (hq : (Code.builtin id args).quiet = true) (hb : entryFor table id = some b)
    (h : wpAny (model prog w) A.in1 (checkBuiltinCall id args) (fun _ s₁ => wpAny (model prog w) (A.under (.builtin id args)) (b args) (finQ (model prog w) A R) (errR R) s₁) (errR R) s) : codeAny (model prog w) A (.call (.builtin id) args) R s := codeAny_call_builtin_at hq hb h
theorem post1 {h₀ h : Heap} {chg news : List (Addr × Obj)} {g : Array GenState} {d : Drawn} {os : OsState} {F : Addr → α} {o : Addr → Obj} {G : α → Shared → Prop} (D : Lg h₀ h chg news)
    (x : ∀ a h' tk', Lg h₀ h' chg ((a, o a) :: news) → G (F a) ⟨h', g, d, tk', os⟩) : ∀ r s', (∃ (a : Addr) (h' : Heap) (tk' : Nat), r = F a ∧ s' = (⟨h', g, d, tk', os⟩ : Shared) ∧ Mem h h' [] [(a, o a)]) → G r s' := by
  rintro _ _ ⟨a, h', tk', rfl, rfl, D'⟩
  exact x _ _ _ (D.add D')
theorem postD {h₀ h : Heap} {chg news : List (Addr × Obj)} {g : Array GenState} {d : Drawn} {os : OsState} {G : α → Shared → Prop} (D : Lg h₀ h chg news)
    (x : ∀ r h' tk', Lg h₀ h' chg news → G r ⟨h', g, d, tk', os⟩) : ∀ r s', (∃ (h' : Heap) (tk' : Nat) (more : List (Addr × Obj)), s' = (⟨h', g, d, tk', os⟩ : Shared) ∧ Mem h h' [] more) → G r s' := by
  rintro r _ ⟨h', tk', m, rfl, D'⟩
  exact x _ _ _ (D.add D').dropl
theorem postE {h₀ h : Heap} {chg news : List (Addr × Obj)} {g : Array GenState} {d : Drawn} {os : OsState} {v : α} {G : α → Shared → Prop} (D : Lg h₀ h chg news)
    (x : ∀ h' tk', Lg h₀ h' chg news → G v ⟨h', g, d, tk', os⟩) : ∀ r s', (∃ (h' : Heap) (tk' : Nat) (more : List (Addr × Obj)), (r = v ∧ s' = (⟨h', g, d, tk', os⟩ : Shared)) ∧ Mem h h' [] more) → G r s' := by
  rintro _ _ ⟨h', tk', m, ⟨rfl, rfl⟩, D'⟩
  exact x _ _ (D.add D').dropl
end
end
section
/-- what a key class is made of -/
structure KDat where
  (aD aNs aM bt fI cI fL cL sl st fG fE fM fN : Addr)
  (tD tN tq t1 t3 k1 k3 k4 k5 k6 k7 k8 k9 k10 k11 k12 kx kd : Tok)
  (a1 a3 a4 a5 a6 a7 a8 a9 a10 a11 a12 hx hd : Int)
  (docI pmI ctvI docL pmL ctvL : Value)
  (p1 p2 p3 p4 p5 p6 r1 r2 r3 r4 r5 r6 r7 r8 r9 r10 r11 : Pos)
noncomputable abbrev KDat.es (x : KDat) : List DictEntry := [⟨x.a1, .str (Str.ofString "__module__") x.k1, .str (Str.ofString "cpy313.functools") x.t1⟩, ⟨x.a3, .str (Str.ofString "__firstlineno__") x.k3, .int 5 x.t3⟩, ⟨x.a4, .str (Str.ofString "__slots__") x.k4, .ref x.sl⟩, ⟨x.a5, .str (Str.ofString "__init__") x.k5, .ref x.fI⟩, ⟨x.a6, .str (Str.ofString "__lt__") x.k6, .ref x.fL⟩, ⟨x.a7, .str (Str.ofString "__gt__") x.k7, .ref x.fG⟩, ⟨x.a8, .str (Str.ofString "__eq__") x.k8, .ref x.fE⟩, ⟨x.a9, .str (Str.ofString "__le__") x.k9, .ref x.fM⟩, ⟨x.a10, .str (Str.ofString "__ge__") x.k10, .ref x.fN⟩, ⟨x.a11, .str (Str.ofString "__hash__") x.k11, .none⟩, ⟨x.a12, .str (Str.ofString "__static_attributes__") x.k12, .ref x.st⟩, ⟨x.hx, .str (Str.ofString "obj") x.kx, .ref x.aD⟩, ⟨x.hd, .str (Str.ofString "__doc__") x.kd, .none⟩]
noncomputable abbrev KDat.init (x : KDat) : Obj := fnMade (Str.ofString "__init__") (Str.ofString "cmp_to_key.<locals>.K.__init__") { posonlyargs := [], args := [{ arg := Str.ofString "self", annotation := none, pos := x.p1 }, { arg := Str.ofString "obj", annotation := none, pos := x.p2 }], vararg := none, kwonlyargs := [], kw_defaults := [], kwarg := none, defaults := [] }
  [.Assign [.Attribute (.Name (Str.ofString "self") x.p3) (Str.ofString "obj") x.p4] (.Name (Str.ofString "obj") x.p5) x.p6] { kind := .function, names := [(Str.ofString "self", .local), (Str.ofString "obj", .local)], isGenerator := false, isCoroutine := false } [] x.docI x.pmI x.cI x.ctvI
noncomputable abbrev KDat.lt (x : KDat) : Obj := fnMade (Str.ofString "__lt__") (Str.ofString "cmp_to_key.<locals>.K.__lt__") { posonlyargs := [], args := [{ arg := Str.ofString "self", annotation := none, pos := x.r1 }, { arg := Str.ofString "other", annotation := none, pos := x.r2 }], vararg := none, kwonlyargs := [], kw_defaults := [], kwarg := none, defaults := [] }
  [.Return (some (.Compare (.Call (.Name (Str.ofString "mycmp") x.r3) [.Attribute (.Name (Str.ofString "self") x.r4) (Str.ofString "obj") x.r5, .Attribute (.Name (Str.ofString "other") x.r6) (Str.ofString "obj") x.r7] [] x.r8) [.Lt] [.Constant (.int 0) 0 x.r9] x.r10)) x.r11] { kind := .function, names := [(Str.ofString "self", .local), (Str.ofString "other", .local), (Str.ofString "mycmp", .free)], isGenerator := false, isCoroutine := false } [(Str.ofString "mycmp", x.aM)] x.docL x.pmL x.cL x.ctvL
/-- a key class stands in a heap -/
structure KOk (h : Heap) (aK : Addr) (x : KDat) : Prop where
  cls : h.get? aK = some (clsK aK x.aNs x.bt x.tN (Str.ofString "cmp_to_key.<locals>.K") x.tq)
  ns : h.get? x.aNs = some (dObj (.type "dict") none #[] x.es 3)
  dsc : h.get? x.aD = some (dscK aK x.tD)
  ini : h.get? x.fI = some x.init
  cIr : h.CodeRec (.ref x.cI) (Str.ofString "cmp_to_key.<locals>.K.__init__")
  lt : h.get? x.fL = some x.lt
  cLr : h.CodeRec (.ref x.cL) (Str.ofString "cmp_to_key.<locals>.K.__lt__")
  cell : h.get? x.aM = some { cls := .type "cell", data := .cell (some (.ref 280)) }
theorem codeRec_up {h h' : Heap} {v : Value} {q : Str} (c : h.CodeRec v q) (u : Up h h') : h'.CodeRec v q := by
  obtain ⟨c, oc, vs, tq, hc, hoc, hdc, hq⟩ := c
  exact ⟨c, oc, vs, tq, hc, u _ _ hoc, hdc, hq⟩
theorem KOk.up {h h' : Heap} {aK : Addr} {x : KDat} (k : KOk h aK x) (u : Up h h') : KOk h' aK x :=
  ⟨u _ _ k.cls, u _ _ k.ns, u _ _ k.dsc, u _ _ k.ini, codeRec_up k.cIr u, u _ _ k.lt, codeRec_up k.cLr u, u _ _ k.cell⟩
end
section
/-- what a key class has made, with its slot -/
noncomputable def InstK (h : Heap) (aK a : Addr) (v : Value) : Prop := ∃ o, h.get? a = some o ∧ o.cls = .ref aK ∧ o.data = .plain ∧ o.slots = #[some v]
end
section
open LCg
section
variable {w : World} {A : Around} {E : Value → Shared → Prop} {s : Shared} {h₀ : Heap} {L : Addr} {m : Str → Option Value} {env : Env}
/-- a new scope whose second name is a cell -/
theorem newEnvV {M : Model} {scope : Scope} {x y : Str} {globals : Addr} {cl : List (Str × Addr)} {qual : Str} {outer : Env} {Q : Env → Shared → Prop} (hsn : scope.names = [(Str.ofString ".0", .local), (x, .cell), (y, .free)])
    (h : Q { scope, locals := s.heap.objs.size, globals, cells := (x, s.heap.objs.size + 1) :: cl, qual, func := none, code := outer.code, frame := outer.frame, builtins := outer.builtins }
      { s with heap := (s.heap.push { cls := .type "dict", data := .dict #[] }).push { cls := .type "cell", data := .cell none } }) :
    wpAny M A (newFunctionEnv scope globals cl [] qual none .none (some outer)) Q E s := by
  simp only [newFunctionEnv, Option.isSome_some, if_true]
  refine wpAny_bind (wpAny_alloc ?_)
  refine wpAny_bind (wpAny_layCells _ (fun name kind cells => by cases hkc : kind == NameKind.cell <;> simp [hkc]) _ _ _ _ ?_)
  rw [hsn]
  rw [List.forIn_nil]
  refine wpAny_bind (wpAny_pure (wpAny_pure ?_))
  show Q { scope, locals := s.heap.objs.size, globals, cells := (x, (s.heap.push { cls := .type "dict", data := .dict #[] }).objs.size) :: cl, qual, func := none, code := outer.code, frame := outer.frame, builtins := outer.builtins } _
  rw [Heap.size_push]
  exact h
/-- what is left to do of a comprehension over a list whose name is a cell -/
noncomputable def RestV (w : World) (A : Around) (h₀ : Heap) (L : Addr) (m : Str → Option Value) (env : Env) (elt : PySem.Expr) (x : Str) (scope : Scope) (cl : List (Str × Addr)) (s : Shared) (ax : Addr) (its : Array Value) (Xc : Addr)
    (Fin : List Value → List (Addr × Obj) → Prop) : Nat → Nat → List Value → List (Addr × Obj) → Prop
  | 0, _, ys, news => Fin ys news
  | k + 1, i, ys, news => ∀ v I oI C oC D oX m₂ h tk (E' : Value → Shared → Prop), its[i]? = some v → NsObj oC m₂ → oX.data = .cell (some v) → Fr h₀ L h m → News h₀ L h ((I, oI) :: (C, oC) :: (D, lst ys) :: (Xc, oX) :: news) → Off3 I C D ((Xc, oX) :: news) →
      ((@Ne Nat I C) ∧ (@Ne Nat I D) ∧ (@Ne Nat C D)) → (∀ p ∈ news, p.1 ≠ Xc) →
      wpAny (model PW w) A (eval elt (compEnvC scope ((x, Xc) :: cl) C env)) (CompEnd h₀ L m { s with heap := h, toks := tk } I oI C oC D (lst ys) (fun _ => True)
        (fun y news' => ∃ nw', news' = (Xc, oX) :: nw' ∧ (∀ p ∈ nw', p.1 ≠ Xc) ∧ SrcAt h₀ ax its nw' ∧ RestV w A h₀ L m env elt x scope cl s ax its Xc Fin k (i + 1) (ys ++ [y]) nw')) E' { s with heap := h, toks := tk }
theorem block_V {elt iter : PySem.Expr} {x y : Str} {px : Pos} {scope : Scope} {cl : List (Str × Addr)} {pos : Pos} {s₂ : Shared} {I ax : Addr} {its : Array Value} {news : List (Addr × Obj)} {Fin : List Value → List (Addr × Obj) → Prop} {RR : Value → Addr → Result → Shared → Prop}
    (hsn : scope.names = [(Str.ofString ".0", .local), (x, .cell), (y, .free)]) (hkx : (relabel scope env).names.lookup x = some .cell) (hkind : scope.kind = .function) (hh : A.handled = none) (hsz : its.size ≤ sizeLine)
    (hit : s₂.heap.IsListIter I ax 0) (hax : ax ≠ I) (hl : s₂.heap.IsList ax its) (F : Fr h₀ L s₂.heap m) (N : News h₀ L s₂.heap news) (hIL : L ≠ I) (hI₀ : h₀.get? I = none) (off : ∀ p ∈ news, p.1 ≠ I) (hS : SrcAt h₀ ax its news)
    (R : ∀ Xc, RestV w A h₀ L m env elt x scope cl s₂ ax its Xc Fin its.size 0 [] news)
    (hRR : ∀ D C h tk m' ys news', Fr h₀ L h m → News h₀ L h ((D, lst ys) :: news') → Off1 D news' → h.Ns C m' → h₀.get? C = none → h₀.get? D = none → C ≠ L → D ≠ L → C ≠ D → (∀ p ∈ news', p.1 ≠ C) → Fin ys news' → RR (.ref D) C (.ok .next) { s₂ with heap := h, toks := tk }) :
    wpAny (model PW w) A (newList []) (fun acc s₃ => wpAny (model PW w) A (newFunctionEnv scope env.globals cl [] env.qual none .none (some env)) (fun cenv s₄ =>
      codeAny (model PW w) A (.compStart (.ListComp elt [⟨.Name x px, iter, [], 0⟩] scope pos) 0 (.ref I) acc { cenv with scope := relabel scope env }) (RR acc cenv.locals) s₄) E s₃) E s₂ := by
  have W := Walks.list (prog := PW) (w := w) hh I ax hax its
  have hIlt : I < s₂.heap.objs.size := by obtain ⟨_, e, _⟩ := hit; exact Heap.lt_size e
  have halt : ax < s₂.heap.objs.size := by obtain ⟨_, e, _⟩ := hl; exact Heap.lt_size e
  refine wpAny_newObj_type (newEnvV hsn ?_)
  dsimp only
  generalize hH2 : s₂.heap.push { cls := .type "list", dict := none, data := .seq ([] : List Value).toArray } = H2
  have hC : H2.objs.size = s₂.heap.objs.size + 1 := by rw [← hH2, Heap.size_push]
  generalize hh1 : (H2.push { cls := .type "dict", data := .dict #[] }).push { cls := .type "cell", data := .cell none } = h₁
  have old : ∀ b o, s₂.heap.get? b = some o → h₁.get? b = some o := fun b o e => by
    rw [← hh1, ← hH2]
    exact Heap.get?_push_of_some _ (Heap.get?_push_of_some _ (Heap.get?_push_of_some _ e))
  have hXs : (H2.push { cls := .type "dict", data := .dict #[] }).objs.size = H2.objs.size + 1 := Heap.size_push ..
  have hX1 : h₁.get? (H2.objs.size + 1) = some { cls := .type "cell", data := .cell none } := by
    rw [← hh1, ← hXs]; exact Heap.get?_push_size _ rfl
  have hns₁ : h₁.Ns H2.objs.size fun _ => none := by
    rw [← hh1]; exact (Heap.Ns.new H2 (.type "dict")).keeps fun b o e => Heap.get?_push_of_some _ e
  have hacc : h₁.get? s₂.heap.objs.size = some (lst []) := by
    rw [← hh1, ← hH2]; exact Heap.get?_push_of_some _ (Heap.get?_push_of_some _ (Heap.get?_push_size _ rfl))
  have hCX : H2.objs.size ≠ H2.objs.size + 1 := Nat.ne_of_lt (Nat.lt_succ_self _)
  generalize hXc : H2.objs.size + 1 = Xc at hX1 hCX ⊢
  have hDC : s₂.heap.objs.size ≠ H2.objs.size := by rw [hC]; exact Nat.ne_of_lt (Nat.lt_succ_self _)
  have hDX : s₂.heap.objs.size ≠ Xc := by rw [← hXc, hC]; omega
  have below : ∀ b, b < s₂.heap.objs.size → b ≠ H2.objs.size ∧ b ≠ s₂.heap.objs.size ∧ b ≠ Xc := fun b hb => ⟨by omega, by omega, by omega⟩
  have fresh : ∀ a, s₂.heap.objs.size ≤ a → s₂.heap.get? a = none := fun a ha => by
    cases e : s₂.heap.get? a with
    | none => rfl
    | some o' => exact absurd (Heap.lt_size e) (Nat.not_lt.mpr ha)
  have fresh₀ : ∀ a, s₂.heap.objs.size ≤ a → h₀.get? a = none := fun a ha => by
    cases e : h₀.get? a with
    | none => rfl
    | some o' => have := F.keep a o' e; rw [fresh a ha] at this; cases this
  have hD₀ : h₀.get? s₂.heap.objs.size = none := fresh₀ _ (Nat.le_refl _)
  have hC₀ : h₀.get? H2.objs.size = none := fresh₀ _ (by omega)
  have hX₀ : h₀.get? Xc = none := fresh₀ _ (by omega)
  have hLlt : L < s₂.heap.objs.size := F.ns.lt
  have hDL : s₂.heap.objs.size ≠ L := Ne.symm (below L hLlt).2.1
  have hCL : H2.objs.size ≠ L := Ne.symm (below L hLlt).1
  have hXL : Xc ≠ L := Ne.symm (below L hLlt).2.2
  have hCI : I ≠ H2.objs.size := (below I hIlt).1
  have hDI : I ≠ s₂.heap.objs.size := (below I hIlt).2.1
  have hXI : I ≠ Xc := (below I hIlt).2.2
  have off₀ : Off3 I H2.objs.size s₂.heap.objs.size news := Off3.of fun p hp => ⟨off p hp, (below _ (Heap.lt_size (N p hp).1)).1, (below _ (Heap.lt_size (N p hp).1)).2.1⟩
  have offX₀ : ∀ p ∈ news, p.1 ≠ Xc := fun p hp => (below _ (Heap.lt_size (N p hp).1)).2.2
  have hst₁ : h₁.IsListIter I ax 0 ∧ h₁.IsList ax its := by
    refine ⟨?_, ?_⟩
    · obtain ⟨o, e, r⟩ := hit; exact ⟨o, old _ _ e, r⟩
    · obtain ⟨o, e, r⟩ := hl; exact ⟨o, old _ _ e, r⟩
  generalize hDd : s₂.heap.objs.size = D at *
  generalize hCc : H2.objs.size = C at *
  have loop : ∀ s₃ : Shared, s₃ = { s₂ with heap := h₁ } →
      codeAny (model PW w) A (.compLoop (.ListComp elt [⟨.Name x px, iter, [], 0⟩] scope pos) 0 (.ref I) (.ref D) (compEnvC scope ((x, Xc) :: cl) C env))
        (RR (.ref D) C) s₃ := by
    rintro s₃ rfl
    refine codeAny_compLoop_tests
      (fun k s' => ∃ h' tk i ys m' news' oX vX, s' = { s₂ with heap := h', toks := tk } ∧ i ≤ its.size ∧ k = its.size + 1 - i ∧ ys.length = i ∧ (h'.IsListIter I ax i ∧ h'.IsList ax its) ∧ Fr h₀ L h' m ∧ h'.Ns C m' ∧ oX.data = .cell vX ∧ News h₀ L h' ((D, lst ys) :: (Xc, oX) :: news') ∧
        Off3 I C D news' ∧ (∀ p ∈ news', p.1 ≠ Xc) ∧ SrcAt h₀ ax its news' ∧ RestV w A h₀ L m env elt x scope cl s₂ ax its Xc Fin (its.size - i) i ys news') ?_ (its.size + 1)
      ⟨h₁, _, 0, [], _, news, { cls := .type "cell", data := .cell none }, none, rfl, Nat.zero_le _, rfl, rfl, hst₁, F.keeps old, hns₁, rfl, fun p hp => ?_, off₀, offX₀, hS, R Xc⟩
    · rintro k s' ⟨h', tk, i, ys, m', news', oX, vX, rfl, hi, rfl, hyl, hst', F', hn', hdX, N', off', offX', hS', R'⟩
      by_cases hlt : i < its.size
      · obtain ⟨j, hj⟩ : ∃ j, its.size - i = j + 1 := ⟨its.size - i - 1, by omega⟩
        rw [hj] at R'
        refine W.item i _ _ _ hlt hst' fun v h₂ tk₂ hPv hst₂ hk₂ => ?_
        have off3 := off'.mem
        have N₂ : News h₀ L h₂ ((D, lst ys) :: (Xc, oX) :: news') := news_but N' hk₂ fun p hp => by
          rcases List.mem_cons.mp hp with rfl | hp
          · exact Ne.symm hDI
          · rcases List.mem_cons.mp hp with rfl | hp
            · exact Ne.symm hXI
            · exact (off3 p hp).1
        refine wpAny_assign_Name (wpAny_storeName_cell (c := Xc) (by simp [compEnvC, relabel, hkind]) hkx (by simp [compEnvC]) ⟨_, (N₂ (Xc, oX) (List.Mem.tail _ (List.Mem.head _))).1, hdX⟩ (fun h₃ hX₃ hs₃ => ?_))
        refine wpAny_tests_nil ?_
        simp only [if_true]
        obtain ⟨oX', heX, hdX'⟩ := hX₃
        have hst₃ : h₃.IsListIter I ax (i + 1) ∧ h₃.IsList ax its := W.frame _ _ _ hst₂ fun b hb o e => hs₃.extBut b o (fun q => by
          rcases List.mem_cons.mp hb with r | r
          · exact hXI (r ▸ q)
          · exact (below ax halt).2.2 ((List.mem_singleton.mp r) ▸ q)) e
        obtain ⟨oI, heI⟩ : ∃ o, h₃.get? I = some o := by obtain ⟨o, e, _⟩ := hst₃.1; exact ⟨o, e⟩
        have hn₃ : h₃.Ns C m' := (hn'.at' fun o e => hk₂ _ o (by simpa using Ne.symm hCI) e).sameBut hs₃ hCX
        obtain ⟨oC, heC, hoC⟩ := ns_obj hn₃
        have F₃ : Fr h₀ L h₃ m := (fr_but F' hk₂ hIL hI₀).change hs₃ hXL hX₀
        have N₃ : News h₀ L h₃ ((I, oI) :: (C, oC) :: (D, lst ys) :: (Xc, oX') :: news') := fun p hp => by
          rcases List.mem_cons.mp hp with rfl | hp
          · exact ⟨heI, Ne.symm hIL, hI₀⟩
          rcases List.mem_cons.mp hp with rfl | hp
          · exact ⟨heC, hCL, hC₀⟩
          rcases List.mem_cons.mp hp with rfl | hp
          · exact ⟨hs₃.extBut _ _ hDX (N₂ _ (List.Mem.head _)).1, hDL, hD₀⟩
          rcases List.mem_cons.mp hp with rfl | hp
          · exact ⟨heX, hXL, hX₀⟩
          · have z := N₂ p (List.Mem.tail _ (List.Mem.tail _ hp))
            exact ⟨hs₃.extBut _ _ (offX' p hp) z.1, z.2⟩
        refine wpAny_mono (R' v I oI C oC D oX' _ h₃ _ _ hPv hoC hdX' F₃ N₃ ⟨⟨Ne.symm hXI, Ne.symm hCX, Ne.symm hDX⟩, off'⟩ ⟨hCI, hDI, Ne.symm hDC⟩ offX') (fun y s₄ h₄ => ?_) fun _ _ e => e
        obtain ⟨h₄, tk₄, news₄, rfl, F₄, N₄, off₄, _, nw₄, rfl, offX₄, hS₄, R₄⟩ := h₄
        have zI := (N₄ (I, oI) List.mem_cons_self).1
        have zC := (N₄ (C, oC) (List.mem_cons_of_mem _ List.mem_cons_self)).1
        have zD := (N₄ (D, lst ys) (List.mem_cons_of_mem _ (List.mem_cons_of_mem _ List.mem_cons_self))).1
        have N₄X : News h₀ L h₄ ((Xc, oX') :: nw₄) := fun p hp => N₄ p (List.mem_cons_of_mem _ (List.mem_cons_of_mem _ (List.mem_cons_of_mem _ hp)))
        have N₄' : News h₀ L h₄ nw₄ := fun p hp => N₄X p (List.mem_cons_of_mem _ hp)
        have hst₄ : h₄.IsListIter I ax (i + 1) ∧ h₄.IsList ax its := list_st _ _ _ _ _ hst₃ heI zI F₄.keep N₄' hS₄
        refine append_at (hsz := by show ys.toArray.size ≤ sizeLine; rw [List.size_toArray, hyl]; exact Nat.le_trans hi hsz) zD fun h₅ hs₅ hD₅ => ?_
        have off4 := off₄.mem
        have hst₅ : h₅.IsListIter I ax (i + 1) ∧ h₅.IsList ax its := W.frame _ _ _ hst₄ fun b hb o e => hs₅.extBut b o (fun q => by
          rcases List.mem_cons.mp hb with r | r
          · exact hDI (r ▸ q)
          · exact (below ax halt).2.1 ((List.mem_singleton.mp r) ▸ q)) e
        refine ⟨its.size + 1 - (i + 1), by omega, h₅, tk₄, i + 1, ys ++ [y], _, nw₄, oX', some v, rfl, hlt, rfl, by rw [List.length_append, List.length_singleton, hyl], hst₅, F₄.change hs₅ hDL hD₀,
          (hoC.ns zC).sameBut hs₅ (Ne.symm hDC), hdX', fun p hp => ?_, off₄.2, offX₄, hS₄, ?_⟩
        · rcases List.mem_cons.mp hp with rfl | hp
          · exact ⟨hD₅.trans (congrArg some (lst_snoc ys y)), hDL, hD₀⟩
          · exact ⟨hs₅.extBut _ _ (off4 p hp).2.2 (N₄X p hp).1, (N₄X p hp).2⟩
        · rw [show its.size - (i + 1) = j by omega]
          exact R₄
      · obtain rfl : i = its.size := Nat.le_antisymm hi (Nat.not_lt.mp hlt)
        rw [Nat.sub_self] at R'
        refine W.done _ _ _ hst' fun h₂ tk₂ hk₂ => ?_
        have off3 := off'.mem
        exact hRR _ _ h₂ tk₂ _ ys news' (fr_but F' hk₂ hIL hI₀) (news_but (fun p hp => N' p (by rcases List.mem_cons.mp hp with rfl | hp; exact List.Mem.head _; exact List.Mem.tail _ (List.Mem.tail _ hp))) hk₂ fun p hp => by
          rcases List.mem_cons.mp hp with rfl | hp
          · exact Ne.symm hDI
          · exact (off3 p hp).1) off'.one (hn'.at' fun o e => hk₂ _ o (by simpa using Ne.symm hCI) e) hC₀ hD₀ hCL hDL (Ne.symm hDC) (fun p hp => (off3 p hp).2.1) R'
    · rcases List.mem_cons.mp hp with rfl | hp
      · exact ⟨hacc, hDL, hD₀⟩
      rcases List.mem_cons.mp hp with rfl | hp
      · exact ⟨hX1, hXL, hX₀⟩
      · exact ⟨old _ _ (N p hp).1, (N p hp).2⟩
  exact codeAny_compStart_list (loop _ rfl) (W.self 0 _ _ _ hst₁ (loop _ rfl))
noncomputable def SrcV (w : World) (A : Around) (h₀ : Heap) (L : Addr) (m : Str → Option Value) (env : Env) (elt : PySem.Expr) (x : Str) (scope : Scope) (cl : List (Str × Addr)) (Fin : Shared → List Value → List (Addr × Obj) → Prop) (xv : Value) (s₁ : Shared) : Prop :=
  ∃ ax its news, xv = .ref ax ∧ Fr h₀ L s₁.heap m ∧ News h₀ L s₁.heap news ∧ SrcAt h₀ ax its news ∧ its.size ≤ sizeLine ∧
    ∀ g Xc, RestV w A h₀ L m env elt x scope cl { s₁ with heap := g } ax its Xc (Fin { s₁ with heap := g }) its.size 0 [] news
theorem ListComp_V {elt iter : PySem.Expr} {x y : Str} {px : Pos} {scope : Scope} {cl : List (Str × Addr)} {pos : Pos} {Q : Value → Shared → Prop} (_F₀ : Fr h₀ L s.heap m)
    (hh : A.handled = none) (hclos : closureFor scope env = pure cl) (hsn : scope.names = [(Str.ofString ".0", .local), (x, .cell), (y, .free)]) (hkx : (relabel scope env).names.lookup x = some .cell) (hkind : scope.kind = .function)
    (hnames : ∀ y ∈ scope.names, y.2 = .local → scope.names.lookup y.1 = some .local)
    (h : wpAny (model PW w) A (eval iter env) (SrcV w A h₀ L m env elt x scope cl fun s₂ => FinE h₀ L m s₂ Q) E s)
    (hs : ∀ x, foldedSetIterable iter env x = pure x := by intro _; rfl) :
    wpAny (model PW w) A (eval (.ListComp elt [⟨.Name x px, iter, [], 0⟩] scope pos) env) Q E s := by
  rw [eval_ListComp]
  refine wpAny_comprehension_free (use := none) rfl hs hclos hkind hnames (wpAny_mono h (fun xv s₁ h₁ => ?_) fun _ _ e => e)
  obtain ⟨ax, its, news, rfl, F, N, S, hsz, R⟩ := h₁
  have hl := S.list F.keep N
  have hlt : ax < s₁.heap.objs.size := by obtain ⟨_, e, _⟩ := hl; exact Heap.lt_size e
  refine wpAny_pyIter_list hl ?_
  have up : ∀ b o, s₁.heap.get? b = some o → (s₁.heap.push { cls := .type "list_iterator", data := .fields #[.ref ax, .int 0 0] }).get? b = some o := fun b o e => Heap.get?_push_of_some _ e
  refine block_V hsn hkx hkind hh hsz ⟨_, Heap.get?_push_size _ rfl, rfl, rfl⟩ (Nat.ne_of_lt hlt) (hl.push _) (F.keeps up) (N.grown up) (Nat.ne_of_lt F.ns.lt) (next_is_new F) (fun p hp => Nat.ne_of_lt (Heap.lt_size (N p hp).1)) S (fun Xc => R _ Xc) ?_
  intro D C h tk m' ys news' F' N' o1 hn hC₀ hD₀ hCL hDL hCD offC fin
  refine ⟨m', hn, fun h'' hs'' => fin D h'' tk (F'.change hs'' hCL hC₀) (fun p hp => ?_) o1⟩
  refine ⟨hs''.extBut _ _ ?_ (N' p hp).1, (N' p hp).2⟩
  rcases List.mem_cons.mp hp with rfl | hp
  · exact Ne.symm hCD
  · exact offC p hp
end
end
section
set_option hygiene false in
local macro_rules | `(tactic| x_close) => `(tactic| first | exact ⟨_, _, _, rfl, rfl, by assumption⟩ | exact ⟨_, _, _, rfl, by assumption⟩ | exact ⟨_, _, _, rfl, Mem.start _⟩ | exact ⟨_, _, _, ⟨rfl, rfl⟩, by assumption⟩ | exact ⟨_, _, _, ⟨rfl, rfl⟩, Mem.start _⟩ | exact ⟨_, _, _, _, rfl, rfl, by assumption⟩)
theorem type_c {n : Nat} {w : World} {p : Program} {loose : List Str} {mg mb : Str → Option Value} {A : Around} {Q : Value → Shared → Prop} {h : Heap} {g : Array GenState} {d : Drawn} {t : Nat} {os : OsState} {bt an sl st fI fL fG fE fM fN : Addr} {tN ts n0 e0 : Nat} 
    {a1 a2 a3 a4 a5 a6 a7 a8 a9 a10 a11 a12 : Int} {k1 k2 k3 k4 k5 k6 k7 k8 k9 k10 k11 k12 t1 t2 t3 : Tok} {dI dL dG dE dM dN : FuncData} {ost : Array Value}
    (TW : Tops w p loose mg mb) (KX : (KK w.params).In h) (RA : Room n A) (nsm : an ≠ sysModules)
    (gbt : h.get? bt = some { cls := .type "tuple", data := .seq #[.type "object"] })
    (gsl : h.get? sl = some { cls := .type "list", data := .seq #[.str (Str.ofString "obj") ts] e0 })
    (gst : h.get? st = some { cls := .type "tuple", data := .seq ost })
    (gI : h.get? fI = some { cls := .type "function", data := .func dI }) (gL : h.get? fL = some { cls := .type "function", data := .func dL }) (gG : h.get? fG = some { cls := .type "function", data := .func dG }) (gE : h.get? fE = some { cls := .type "function", data := .func dE }) (gM : h.get? fM = some { cls := .type "function", data := .func dM }) (gN : h.get? fN = some { cls := .type "function", data := .func dN })
    (gan : h.get? an = some (dObj (.type "dict") none #[] [⟨a1, .str (Str.ofString "__module__") k1, .str (Str.ofString "cpy313.functools") t1⟩, ⟨a2, .str (Str.ofString "__qualname__") k2, .str (Str.ofString "cmp_to_key.<locals>.K") t2⟩, ⟨a3, .str (Str.ofString "__firstlineno__") k3, .int 5 t3⟩, ⟨a4, .str (Str.ofString "__slots__") k4, .ref sl⟩, ⟨a5, .str (Str.ofString "__init__") k5, .ref fI⟩, ⟨a6, .str (Str.ofString "__lt__") k6, .ref fL⟩, ⟨a7, .str (Str.ofString "__gt__") k7, .ref fG⟩, ⟨a8, .str (Str.ofString "__eq__") k8, .ref fE⟩, ⟨a9, .str (Str.ofString "__le__") k9, .ref fM⟩, ⟨a10, .str (Str.ofString "__ge__") k10, .ref fN⟩, ⟨a11, .str (Str.ofString "__hash__") k11, .none⟩, ⟨a12, .str (Str.ofString "__static_attributes__") k12, .ref st⟩] n0))
    (hQ : ∀ (aD aK aNs al : Addr) (tD : Tok) (hx hh : Int) (kx kt : Tok) (h' : Heap) (tk' : Nat), Lg h h' [] [(aD, dscK aK tD), (aK, clsK aK aNs bt tN (Str.ofString "cmp_to_key.<locals>.K") t2), (aNs, dObj (.type "dict") none #[] [⟨a1, .str (Str.ofString "__module__") k1, .str (Str.ofString "cpy313.functools") t1⟩, ⟨a3, .str (Str.ofString "__firstlineno__") k3, .int 5 t3⟩, ⟨a4, .str (Str.ofString "__slots__") k4, .ref sl⟩, ⟨a5, .str (Str.ofString "__init__") k5, .ref fI⟩, ⟨a6, .str (Str.ofString "__lt__") k6, .ref fL⟩, ⟨a7, .str (Str.ofString "__gt__") k7, .ref fG⟩, ⟨a8, .str (Str.ofString "__eq__") k8, .ref fE⟩, ⟨a9, .str (Str.ofString "__le__") k9, .ref fM⟩, ⟨a10, .str (Str.ofString "__ge__") k10, .ref fN⟩, ⟨a11, .str (Str.ofString "__hash__") k11, .none⟩, ⟨a12, .str (Str.ofString "__static_attributes__") k12, .ref st⟩, ⟨hx, .str (Str.ofString "obj") kx, .ref aD⟩, ⟨hh, .str (Str.ofString "__doc__") kt, .none⟩] 3), (al, { cls := .type "list", data := .seq #[.str (Str.ofString "obj") ts] 1 })] → Q (.ref aK) ⟨h', g, d, tk', os⟩) :
    wpAny (model PW w) A (call (.type "type") [.str (Str.ofString "K") tN, .ref bt, .ref an] []) Q (fun _ _ => False) ⟨h, g, d, t, os⟩ := by
  refine weaken RA ?_
  have D9 := Lg.start h
  have hTT : isSubtype (.type "type") (.type "type") = pure true := by rw [isSubtype_type]; kernel_rfl
  have hMT : mroOf (.type "type") = pure [.type "type", .type "object"] := by rw [mroOf_type]; kernel_rfl
  have hMB : Bind.madeBy (.type "type") = pure (some "type.__new__") := madeBy_type hMT (by rw [typeLookup_type, builtinLookup_eq_fast]; kernel_rfl) (by decide +kernel)
  have s1 : isSubtype (.type "tuple") (.type "tuple") = pure true := by rw [isSubtype_type]; kernel_rfl
  have s2 : isSubtype (.type "dict") (.type "dict") = pure true := by rw [isSubtype_type]; kernel_rfl
  have l1 : typeLookup (.type "dict") "__iter__" = pure (some (.builtin "dict.__iter__")) := by rw [typeLookup_type, builtinLookup_eq_fast]; kernel_rfl
  have hTO : typeOf (.type "object") = pure (.type "type") := by kernel_rfl
  have p1 : peek (KK w.params) ⟨PW, w.params⟩ (Builtin.notOverATurnedClass [.type "object"]) = some () := by kernel_rfl
  have p2 : peek (KK w.params) ⟨PW, w.params⟩ (Builtin.extendedBase [.type "object"]) = some (.type "object") := by kernel_rfl
  have p3 : peek (KK w.params) ⟨PW, w.params⟩ (Builtin.Slots.bestBase [.type "object"]) = some (.type "object") := by kernel_rfl
  have p4 : peek (KK w.params) ⟨PW, w.params⟩ (Builtin.Slots.slotNamesOf (.type "object")) = some [] := by kernel_rfl
  have p5 : peek (KK w.params) ⟨PW, w.params⟩ (Builtin.Slots.givesDict (.type "object")) = some false := by kernel_rfl
  have p6 : peek (KK w.params) ⟨PW, w.params⟩ (Builtin.Slots.givesWeak (.type "object")) = some false := by kernel_rfl
  have p7 : peek (KK w.params) ⟨PW, w.params⟩ (Builtin.Slots.varSize (.type "object")) = some false := by kernel_rfl
  have p8 : peek (KK w.params) ⟨PW, w.params⟩ (Builtin.mroHook? (.type "type")) = some none := by kernel_rfl
  have p9 : peek (KK w.params) ⟨PW, w.params⟩ (Builtin.linearize [.type "object"] mroOf) = some [.type "object"] := by kernel_rfl
  have s3 : isSubtype (.type "object") (.type "object") = pure true := by rw [isSubtype_type]; kernel_rfl
  have l2 : typeLookup (.type "object") "__new__" = pure (some (.builtin "object.__new__")) := by rw [typeLookup_type, builtinLookup_eq_fast]; kernel_rfl
  have hMO : mroOf (.type "object") = pure [.type "object"] := F.mro_object
  have hMBO : Bind.madeBy (.type "object") = pure (some "object.__new__") := madeBy_type hMO l2 (by decide +kernel)
  have c1 : classOwn (.type "object") "__new__" = pure (some (.builtin "object.__new__")) := by show pure (builtinOwn _ _) = _; rw [builtinOwn_eq_fast]; kernel_rfl
  have sn0 : typeLookup (.type "function") "__set_name__" = pure none := by rw [typeLookup_type, builtinLookup_eq_fast]; kernel_rfl
  have sn1 : typeLookup (.type "str") "__set_name__" = pure none := by rw [typeLookup_type, builtinLookup_eq_fast]; kernel_rfl
  have sn2 : typeLookup (.type "int") "__set_name__" = pure none := by rw [typeLookup_type, builtinLookup_eq_fast]; kernel_rfl
  have sn3 : typeLookup (.type "list") "__set_name__" = pure none := by rw [typeLookup_type, builtinLookup_eq_fast]; kernel_rfl
  have sn4 : typeLookup (.type "NoneType") "__set_name__" = pure none := by rw [typeLookup_type, builtinLookup_eq_fast]; kernel_rfl
  have sn5 : typeLookup (.type "tuple") "__set_name__" = pure none := by rw [typeLookup_type, builtinLookup_eq_fast]; kernel_rfl
  have sn6 : typeLookup (.type "member_descriptor") "__set_name__" = pure none := by rw [typeLookup_type, builtinLookup_eq_fast]; kernel_rfl
  have c2 : classOwn (.type "object") "__init_subclass__" = pure (some (.builtin "object.__init_subclass__")) := by show pure (builtinOwn _ _) = _; rw [builtinOwn_eq_fast]; kernel_rfl
  have hTB : typeOf (.builtin "object.__init_subclass__") = pure (.type "classmethod_descriptor") := by kernel_rfl
  have l3 : typeLookup (.type "classmethod_descriptor") "__get__" = pure (some (.builtin "classmethod_descriptor.__get__")) := by rw [typeLookup_type, builtinLookup_eq_fast]; kernel_rfl
  have l4 : typeLookup (.type "type") "__init__" = pure (some (.builtin "type.__init__")) := by rw [typeLookup_type, builtinLookup_eq_fast]; kernel_rfl
  have sI : Slot "type" "__init__" "type.__init__" := .of (owner := "type") (n := "__init__") (by rw [typeLookup_type, builtinLookup_eq_fast]; kernel_rfl) (by decide +kernel) (by decide +kernel) (by decide +kernel) (by first | exact .inl (by decide +kernel) | exact .inr (by decide +kernel)) (by rw [isSubtype_type]; kernel_rfl)
  have eN : entryFor table "type.__new__" = some Builtin.«type.__new__» := entryFor_of_tree (by kernel_rfl)
  refine call_q (tree_q ?_)
  show wpAny _ _ (callAny (.type "type") _) _ _ _
  refine wpAny_pure (fin_again ⟨Code.quiet_builtin _ (by decide +kernel), builtin_q F.entry_type_call ?_⟩)
  unfold Builtin.«type.__call__»
  repeat (first | with_reducible refine bq ?_ | with_reducible refine bq_go ?_ | with_reducible refine rv_go ?_ | with_reducible refine fin_done ?_ | with_reducible refine fin_again ?_ | with_reducible refine err_go ?_ | with_reducible refine rv_err ?_ | with_reducible refine wpAny_pure ?_ | with_reducible refine eq_in ?_ | with_reducible refine eq_go ?_ | ((with_reducible refine PySem.wpAny_enterFrame ?hl ?hd ?_); (case hl => exact (TW _ (lg_KK KX D9 (by first | exact chg0 | exact chg33 _))).nolimit); (case hd => exact Nat.le_of_ble_eq_true rfl)) | ((with_reducible refine' m_nsGetK KX D9 ?hc ?e ?_); (case hc => first | exact chg0 | exact chg33 _); (case e => k_is)) | ((with_reducible refine' m_nsSetNew D9 ?hs ?hr ?he ?_); (case hs => (repeat (first | exact Spl.here | apply Spl.there))); (case hr => kernel_rfl!); (case he => (intro hh kt; kernel_rfl!)); clear D9; intro hh kt hN D9; (try simp only [List.cons_append, List.nil_append] at D9)) | ((with_reducible refine' m_nsSetMod D9 ?hs ?hr ?he ?_); (case hs => (repeat (first | exact Spl.here | apply Spl.there))); (case hr => kernel_rfl!); (case he => (intro hh kt; kernel_rfl!)); clear D9; intro hN D9; (try simp only [List.cons_append, List.nil_append] at D9)) | ((with_reducible refine' m_nsDel D9 ?hs ?hh ?he ?_); (case hs => (repeat (first | exact Spl.here | apply Spl.there))); (case hh => kernel_rfl!); (case he => kernel_rfl!); clear D9; intro hN D9; (try simp only [List.cons_append, List.nil_append] at D9)) | ((with_reducible refine' m_nsGet (rv := none) D9 ?hm ?e ?_); (case hm => (repeat (first | exact List.Mem.head _ | apply List.Mem.tail))); (case e => kernel_rfl!)) | with_reducible refine wpAny_askSetting ?_ | with_reducible refine wpAny_point ?_ | with_reducible refine PyProof.Rows.lt_int ?_ | ((with_reducible refine callWith_F (q := 280) ?fnq ?_); (case fnq => exact ⟨_, _, _, _, lg_KK KX D9 chg0 _ _ (by k_is)⟩)) | ((with_reducible refine' m_nsL (rv := some (.ref ia)) hns ?ee ?_); (case ee => kernel_rfl!)) | ((with_reducible refine' m_nsL (rv := some (.ref ib)) hns ?ee ?_); (case ee => kernel_rfl!)) | ((first | guard_hyp gan | guard_hyp k); with_reducible refine te_in' ?_) | with_reducible refine te_go ?_ | ((first | guard_hyp gan | guard_hyp k); with_reducible refine aq_in ?_) | with_reducible refine aq_go ?_ | with_reducible refine ae_go ?_ | ((first | guard_hyp gan | guard_hyp k); with_reducible refine wpAny_of_eq (by assumption) ?_) | ((first | guard_hyp gan | guard_hyp k); with_reducible refine m_peek KX D9 chg0 (by assumption) ?_) | wp_delta | with_reducible refine wpAny_holding ?_ | with_reducible refine wpAny_standAt ?_ | with_reducible refine wpAny_rule ?_ | with_reducible refine wpAny_fresh' ?_ | ((first | guard_hyp gan | guard_hyp k); with_reducible refine te_in ?_) | ((with_reducible refine' wpAny_load (D9.keep _ _ ?ko nochg) ?_); (case ko => with_reducible first | exact gan | exact gbt | exact gsl | exact gst | exact gI | exact gL | exact gG | exact gE | exact gM | exact gN | exact k.cls | exact k.ns | exact k.dsc | exact k.ini | exact k.lt | exact k.cell | exact gi | exact gj)) | ((with_reducible refine' wpAny_loadPart (D9.keep _ _ ?ko nochg) ?_); (case ko => with_reducible first | exact gan | exact gbt | exact gsl | exact gst | exact gI | exact gL | exact gG | exact gE | exact gM | exact gN | exact k.cls | exact k.ns | exact k.dsc | exact k.ini | exact k.lt | exact k.cell | exact gi | exact gj)) | ((with_reducible refine' m_loadPart D9 ?hm ?_); (case hm => (repeat (first | exact List.Mem.head _ | apply List.Mem.tail)))) | ((with_reducible refine' m_load D9 ?hm ?_); (case hm => (repeat (first | exact List.Mem.head _ | apply List.Mem.tail)))) | ((with_reducible refine' m_alloc D9 ?ho ?_); (case ho => exact rfl); clear D9; intro a hN D9) | ((with_reducible refine' m_updPart D9 ?hp ?hf ?_); (case hp => (repeat (first | exact Put.here | apply Put.there))); (case hf => exact rfl); clear D9; intro hN D9; try dsimp only at D9) | ((with_reducible refine' m_upd D9 ?hp ?hf ?_); (case hp => (repeat (first | exact Put.here | apply Put.there))); (case hf => exact rfl); clear D9; intro hN D9; try dsimp only at D9) | ((with_reducible refine' m_loadC D9 ?hm ?_); (case hm => exact List.Mem.head _)) | ((with_reducible refine' m_loadK KX D9 ?hc ?e ?_); (case hc => first | exact chg0 | exact chg33 _); (case e => k_is)) | ((with_reducible refine' PySem.wpAny_ite_false ?zz ?_); (case zz => kernel_rfl!)) | ((with_reducible refine' PySem.wpAny_ite_true ?zz ?_); (case zz => kernel_rfl!)))
  refine call_q (tree_q ?_)
  show wpAny _ _ (do checkBuiltinCall "type.__new__" ⟨[.type "type", .str (Str.ofString "K") tN, .ref bt, .ref an], []⟩; again (.builtin "type.__new__" ⟨[.type "type", .str (Str.ofString "K") tN, .ref bt, .ref an], []⟩)) _ _ _
  have hck : checkBuiltinCall "type.__new__" ⟨[.type "type", .str (Str.ofString "K") tN, .ref bt, .ref an], []⟩ = pure () := by kernel_rfl
  refine bq (wpAny_of_eq hck (bq_go (wpAny_pure (fin_again ⟨plainId_quiet (by decide +kernel) _, builtin_q eN ?_⟩))))
  unfold Builtin.«type.__new__»
  repeat (first | with_reducible refine bq ?_ | with_reducible refine bq_go ?_ | with_reducible refine rv_go ?_ | with_reducible refine fin_done ?_ | with_reducible refine fin_again ?_ | with_reducible refine err_go ?_ | with_reducible refine rv_err ?_ | with_reducible refine wpAny_pure ?_ | with_reducible refine eq_in ?_ | with_reducible refine eq_go ?_ | ((with_reducible refine PySem.wpAny_enterFrame ?hl ?hd ?_); (case hl => exact (TW _ (lg_KK KX D9 (by first | exact chg0 | exact chg33 _))).nolimit); (case hd => exact Nat.le_of_ble_eq_true rfl)) | ((with_reducible refine' m_nsGetK KX D9 ?hc ?e ?_); (case hc => first | exact chg0 | exact chg33 _); (case e => k_is)) | ((with_reducible refine' m_nsSetNew D9 ?hs ?hr ?he ?_); (case hs => (repeat (first | exact Spl.here | apply Spl.there))); (case hr => kernel_rfl!); (case he => (intro hh kt; kernel_rfl!)); clear D9; intro hh kt hN D9; (try simp only [List.cons_append, List.nil_append] at D9)) | ((with_reducible refine' m_nsSetMod D9 ?hs ?hr ?he ?_); (case hs => (repeat (first | exact Spl.here | apply Spl.there))); (case hr => kernel_rfl!); (case he => (intro hh kt; kernel_rfl!)); clear D9; intro hN D9; (try simp only [List.cons_append, List.nil_append] at D9)) | ((with_reducible refine' m_nsDel D9 ?hs ?hh ?he ?_); (case hs => (repeat (first | exact Spl.here | apply Spl.there))); (case hh => kernel_rfl!); (case he => kernel_rfl!); clear D9; intro hN D9; (try simp only [List.cons_append, List.nil_append] at D9)) | ((with_reducible refine' m_nsGet (rv := none) D9 ?hm ?e ?_); (case hm => (repeat (first | exact List.Mem.head _ | apply List.Mem.tail))); (case e => kernel_rfl!)) | with_reducible refine wpAny_askSetting ?_ | with_reducible refine wpAny_point ?_ | with_reducible refine PyProof.Rows.lt_int ?_ | ((with_reducible refine callWith_F (q := 280) ?fnq ?_); (case fnq => exact ⟨_, _, _, _, lg_KK KX D9 chg0 _ _ (by k_is)⟩)) | ((with_reducible refine' m_nsL (rv := some (.ref ia)) hns ?ee ?_); (case ee => kernel_rfl!)) | ((with_reducible refine' m_nsL (rv := some (.ref ib)) hns ?ee ?_); (case ee => kernel_rfl!)) | ((first | guard_hyp gan | guard_hyp k); with_reducible refine te_in' ?_) | with_reducible refine te_go ?_ | ((first | guard_hyp gan | guard_hyp k); with_reducible refine aq_in ?_) | with_reducible refine aq_go ?_ | with_reducible refine ae_go ?_ | ((first | guard_hyp gan | guard_hyp k); with_reducible refine wpAny_of_eq (by assumption) ?_) | ((first | guard_hyp gan | guard_hyp k); with_reducible refine m_peek KX D9 chg0 (by assumption) ?_) | wp_delta | with_reducible refine wpAny_holding ?_ | with_reducible refine wpAny_standAt ?_ | with_reducible refine wpAny_rule ?_ | with_reducible refine wpAny_fresh' ?_ | ((first | guard_hyp gan | guard_hyp k); with_reducible refine te_in ?_) | ((with_reducible refine' wpAny_load (D9.keep _ _ ?ko nochg) ?_); (case ko => with_reducible first | exact gan | exact gbt | exact gsl | exact gst | exact gI | exact gL | exact gG | exact gE | exact gM | exact gN | exact k.cls | exact k.ns | exact k.dsc | exact k.ini | exact k.lt | exact k.cell | exact gi | exact gj)) | ((with_reducible refine' wpAny_loadPart (D9.keep _ _ ?ko nochg) ?_); (case ko => with_reducible first | exact gan | exact gbt | exact gsl | exact gst | exact gI | exact gL | exact gG | exact gE | exact gM | exact gN | exact k.cls | exact k.ns | exact k.dsc | exact k.ini | exact k.lt | exact k.cell | exact gi | exact gj)) | ((with_reducible refine' m_loadPart D9 ?hm ?_); (case hm => (repeat (first | exact List.Mem.head _ | apply List.Mem.tail)))) | ((with_reducible refine' m_load D9 ?hm ?_); (case hm => (repeat (first | exact List.Mem.head _ | apply List.Mem.tail)))) | ((with_reducible refine' m_alloc D9 ?ho ?_); (case ho => exact rfl); clear D9; intro a hN D9) | ((with_reducible refine' m_updPart D9 ?hp ?hf ?_); (case hp => (repeat (first | exact Put.here | apply Put.there))); (case hf => exact rfl); clear D9; intro hN D9; try dsimp only at D9) | ((with_reducible refine' m_upd D9 ?hp ?hf ?_); (case hp => (repeat (first | exact Put.here | apply Put.there))); (case hf => exact rfl); clear D9; intro hN D9; try dsimp only at D9) | ((with_reducible refine' m_loadC D9 ?hm ?_); (case hm => exact List.Mem.head _)) | ((with_reducible refine' m_loadK KX D9 ?hc ?e ?_); (case hc => first | exact chg0 | exact chg33 _); (case e => k_is)) | ((with_reducible refine' PySem.wpAny_ite_false ?zz ?_); (case zz => kernel_rfl!)) | ((with_reducible refine' PySem.wpAny_ite_true ?zz ?_); (case zz => kernel_rfl!)))
  refine PySem.wpAny_ite_false (by simp [nsm]) ?_
  repeat (first | with_reducible refine bq ?_ | with_reducible refine bq_go ?_ | with_reducible refine rv_go ?_ | with_reducible refine fin_done ?_ | with_reducible refine fin_again ?_ | with_reducible refine err_go ?_ | with_reducible refine rv_err ?_ | with_reducible refine wpAny_pure ?_ | with_reducible refine eq_in ?_ | with_reducible refine eq_go ?_ | ((with_reducible refine PySem.wpAny_enterFrame ?hl ?hd ?_); (case hl => exact (TW _ (lg_KK KX D9 (by first | exact chg0 | exact chg33 _))).nolimit); (case hd => exact Nat.le_of_ble_eq_true rfl)) | ((with_reducible refine' m_nsGetK KX D9 ?hc ?e ?_); (case hc => first | exact chg0 | exact chg33 _); (case e => k_is)) | ((with_reducible refine' m_nsSetNew D9 ?hs ?hr ?he ?_); (case hs => (repeat (first | exact Spl.here | apply Spl.there))); (case hr => kernel_rfl!); (case he => (intro hh kt; kernel_rfl!)); clear D9; intro hh kt hN D9; (try simp only [List.cons_append, List.nil_append] at D9)) | ((with_reducible refine' m_nsSetMod D9 ?hs ?hr ?he ?_); (case hs => (repeat (first | exact Spl.here | apply Spl.there))); (case hr => kernel_rfl!); (case he => (intro hh kt; kernel_rfl!)); clear D9; intro hN D9; (try simp only [List.cons_append, List.nil_append] at D9)) | ((with_reducible refine' m_nsDel D9 ?hs ?hh ?he ?_); (case hs => (repeat (first | exact Spl.here | apply Spl.there))); (case hh => kernel_rfl!); (case he => kernel_rfl!); clear D9; intro hN D9; (try simp only [List.cons_append, List.nil_append] at D9)) | ((with_reducible refine' m_nsGet (rv := none) D9 ?hm ?e ?_); (case hm => (repeat (first | exact List.Mem.head _ | apply List.Mem.tail))); (case e => kernel_rfl!)) | with_reducible refine wpAny_askSetting ?_ | with_reducible refine wpAny_point ?_ | with_reducible refine PyProof.Rows.lt_int ?_ | ((with_reducible refine callWith_F (q := 280) ?fnq ?_); (case fnq => exact ⟨_, _, _, _, lg_KK KX D9 chg0 _ _ (by k_is)⟩)) | ((with_reducible refine' m_nsL (rv := some (.ref ia)) hns ?ee ?_); (case ee => kernel_rfl!)) | ((with_reducible refine' m_nsL (rv := some (.ref ib)) hns ?ee ?_); (case ee => kernel_rfl!)) | ((first | guard_hyp gan | guard_hyp k); with_reducible refine te_in' ?_) | with_reducible refine te_go ?_ | ((first | guard_hyp gan | guard_hyp k); with_reducible refine aq_in ?_) | with_reducible refine aq_go ?_ | with_reducible refine ae_go ?_ | ((first | guard_hyp gan | guard_hyp k); with_reducible refine wpAny_of_eq (by assumption) ?_) | ((first | guard_hyp gan | guard_hyp k); with_reducible refine m_peek KX D9 chg0 (by assumption) ?_) | wp_delta | with_reducible refine wpAny_holding ?_ | with_reducible refine wpAny_standAt ?_ | with_reducible refine wpAny_rule ?_ | with_reducible refine wpAny_fresh' ?_ | ((first | guard_hyp gan | guard_hyp k); with_reducible refine te_in ?_) | ((with_reducible refine' wpAny_load (D9.keep _ _ ?ko nochg) ?_); (case ko => with_reducible first | exact gan | exact gbt | exact gsl | exact gst | exact gI | exact gL | exact gG | exact gE | exact gM | exact gN | exact k.cls | exact k.ns | exact k.dsc | exact k.ini | exact k.lt | exact k.cell | exact gi | exact gj)) | ((with_reducible refine' wpAny_loadPart (D9.keep _ _ ?ko nochg) ?_); (case ko => with_reducible first | exact gan | exact gbt | exact gsl | exact gst | exact gI | exact gL | exact gG | exact gE | exact gM | exact gN | exact k.cls | exact k.ns | exact k.dsc | exact k.ini | exact k.lt | exact k.cell | exact gi | exact gj)) | ((with_reducible refine' m_loadPart D9 ?hm ?_); (case hm => (repeat (first | exact List.Mem.head _ | apply List.Mem.tail)))) | ((with_reducible refine' m_load D9 ?hm ?_); (case hm => (repeat (first | exact List.Mem.head _ | apply List.Mem.tail)))) | ((with_reducible refine' m_alloc D9 ?ho ?_); (case ho => exact rfl); clear D9; intro a hN D9) | ((with_reducible refine' m_updPart D9 ?hp ?hf ?_); (case hp => (repeat (first | exact Put.here | apply Put.there))); (case hf => exact rfl); clear D9; intro hN D9; try dsimp only at D9) | ((with_reducible refine' m_upd D9 ?hp ?hf ?_); (case hp => (repeat (first | exact Put.here | apply Put.there))); (case hf => exact rfl); clear D9; intro hN D9; try dsimp only at D9) | ((with_reducible refine' m_loadC D9 ?hm ?_); (case hm => exact List.Mem.head _)) | ((with_reducible refine' m_loadK KX D9 ?hc ?e ?_); (case hc => first | exact chg0 | exact chg33 _); (case e => k_is)) | ((with_reducible refine' PySem.wpAny_ite_false ?zz ?_); (case zz => kernel_rfl!)) | ((with_reducible refine' PySem.wpAny_ite_true ?zz ?_); (case zz => kernel_rfl!)))
  refine wpAny_mono (Q := fun r s' => ∃ (a : Addr) (h' : Heap) (tk' : Nat), r = Value.ref a ∧ s' = (⟨h', g, d, tk', os⟩ : Shared) ∧ Mem h h' [] [(a, { cls := .type "list", data := .seq #[.str (Str.ofString "obj") ts] 1 })]) (E := fun _ _ => False) ?_ ?_ (fun _ _ h => h.elim)
  · (generalize PW = prog; x_run)
  refine post1 D9 ?_
  clear D9
  intro al hN tk1 D9
  repeat (first | with_reducible refine bq ?_ | with_reducible refine bq_go ?_ | with_reducible refine rv_go ?_ | with_reducible refine fin_done ?_ | with_reducible refine fin_again ?_ | with_reducible refine err_go ?_ | with_reducible refine rv_err ?_ | with_reducible refine wpAny_pure ?_ | with_reducible refine eq_in ?_ | with_reducible refine eq_go ?_ | ((with_reducible refine PySem.wpAny_enterFrame ?hl ?hd ?_); (case hl => exact (TW _ (lg_KK KX D9 (by first | exact chg0 | exact chg33 _))).nolimit); (case hd => exact Nat.le_of_ble_eq_true rfl)) | ((with_reducible refine' m_nsGetK KX D9 ?hc ?e ?_); (case hc => first | exact chg0 | exact chg33 _); (case e => k_is)) | ((with_reducible refine' m_nsSetNew D9 ?hs ?hr ?he ?_); (case hs => (repeat (first | exact Spl.here | apply Spl.there))); (case hr => kernel_rfl!); (case he => (intro hh kt; kernel_rfl!)); clear D9; intro hh kt hN D9; (try simp only [List.cons_append, List.nil_append] at D9)) | ((with_reducible refine' m_nsSetMod D9 ?hs ?hr ?he ?_); (case hs => (repeat (first | exact Spl.here | apply Spl.there))); (case hr => kernel_rfl!); (case he => (intro hh kt; kernel_rfl!)); clear D9; intro hN D9; (try simp only [List.cons_append, List.nil_append] at D9)) | ((with_reducible refine' m_nsDel D9 ?hs ?hh ?he ?_); (case hs => (repeat (first | exact Spl.here | apply Spl.there))); (case hh => kernel_rfl!); (case he => kernel_rfl!); clear D9; intro hN D9; (try simp only [List.cons_append, List.nil_append] at D9)) | ((with_reducible refine' m_nsGet (rv := none) D9 ?hm ?e ?_); (case hm => (repeat (first | exact List.Mem.head _ | apply List.Mem.tail))); (case e => kernel_rfl!)) | with_reducible refine wpAny_askSetting ?_ | with_reducible refine wpAny_point ?_ | with_reducible refine PyProof.Rows.lt_int ?_ | ((with_reducible refine callWith_F (q := 280) ?fnq ?_); (case fnq => exact ⟨_, _, _, _, lg_KK KX D9 chg0 _ _ (by k_is)⟩)) | ((with_reducible refine' m_nsL (rv := some (.ref ia)) hns ?ee ?_); (case ee => kernel_rfl!)) | ((with_reducible refine' m_nsL (rv := some (.ref ib)) hns ?ee ?_); (case ee => kernel_rfl!)) | ((first | guard_hyp gan | guard_hyp k); with_reducible refine te_in' ?_) | with_reducible refine te_go ?_ | ((first | guard_hyp gan | guard_hyp k); with_reducible refine aq_in ?_) | with_reducible refine aq_go ?_ | with_reducible refine ae_go ?_ | ((first | guard_hyp gan | guard_hyp k); with_reducible refine wpAny_of_eq (by assumption) ?_) | ((first | guard_hyp gan | guard_hyp k); with_reducible refine m_peek KX D9 chg0 (by assumption) ?_) | wp_delta | with_reducible refine wpAny_holding ?_ | with_reducible refine wpAny_standAt ?_ | with_reducible refine wpAny_rule ?_ | with_reducible refine wpAny_fresh' ?_ | ((first | guard_hyp gan | guard_hyp k); with_reducible refine te_in ?_) | ((with_reducible refine' wpAny_load (D9.keep _ _ ?ko nochg) ?_); (case ko => with_reducible first | exact gan | exact gbt | exact gsl | exact gst | exact gI | exact gL | exact gG | exact gE | exact gM | exact gN | exact k.cls | exact k.ns | exact k.dsc | exact k.ini | exact k.lt | exact k.cell | exact gi | exact gj)) | ((with_reducible refine' wpAny_loadPart (D9.keep _ _ ?ko nochg) ?_); (case ko => with_reducible first | exact gan | exact gbt | exact gsl | exact gst | exact gI | exact gL | exact gG | exact gE | exact gM | exact gN | exact k.cls | exact k.ns | exact k.dsc | exact k.ini | exact k.lt | exact k.cell | exact gi | exact gj)) | ((with_reducible refine' m_loadPart D9 ?hm ?_); (case hm => (repeat (first | exact List.Mem.head _ | apply List.Mem.tail)))) | ((with_reducible refine' m_load D9 ?hm ?_); (case hm => (repeat (first | exact List.Mem.head _ | apply List.Mem.tail)))) | ((with_reducible refine' m_alloc D9 ?ho ?_); (case ho => exact rfl); clear D9; intro a hN D9) | ((with_reducible refine' m_updPart D9 ?hp ?hf ?_); (case hp => (repeat (first | exact Put.here | apply Put.there))); (case hf => exact rfl); clear D9; intro hN D9; try dsimp only at D9) | ((with_reducible refine' m_upd D9 ?hp ?hf ?_); (case hp => (repeat (first | exact Put.here | apply Put.there))); (case hf => exact rfl); clear D9; intro hN D9; try dsimp only at D9) | ((with_reducible refine' m_loadC D9 ?hm ?_); (case hm => exact List.Mem.head _)) | ((with_reducible refine' m_loadK KX D9 ?hc ?e ?_); (case hc => first | exact chg0 | exact chg33 _); (case e => k_is)) | ((with_reducible refine' PySem.wpAny_ite_false ?zz ?_); (case zz => kernel_rfl!)) | ((with_reducible refine' PySem.wpAny_ite_true ?zz ?_); (case zz => kernel_rfl!)))
  have hId : Builtin.Slots.isIdentifier (Str.ofString "obj") = some true := by kernel_rfl
  have hMg : Builtin.Slots.mangle (Str.ofString "K") (Str.ofString "obj") = Str.ofString "obj" := by kernel_rfl
  rw [hId]
  repeat (first | with_reducible refine bq ?_ | with_reducible refine bq_go ?_ | with_reducible refine rv_go ?_ | with_reducible refine fin_done ?_ | with_reducible refine fin_again ?_ | with_reducible refine err_go ?_ | with_reducible refine rv_err ?_ | with_reducible refine wpAny_pure ?_ | with_reducible refine eq_in ?_ | with_reducible refine eq_go ?_ | ((with_reducible refine PySem.wpAny_enterFrame ?hl ?hd ?_); (case hl => exact (TW _ (lg_KK KX D9 (by first | exact chg0 | exact chg33 _))).nolimit); (case hd => exact Nat.le_of_ble_eq_true rfl)) | ((with_reducible refine' m_nsGetK KX D9 ?hc ?e ?_); (case hc => first | exact chg0 | exact chg33 _); (case e => k_is)) | ((with_reducible refine' m_nsSetNew D9 ?hs ?hr ?he ?_); (case hs => (repeat (first | exact Spl.here | apply Spl.there))); (case hr => kernel_rfl!); (case he => (intro hh kt; kernel_rfl!)); clear D9; intro hh kt hN D9; (try simp only [List.cons_append, List.nil_append] at D9)) | ((with_reducible refine' m_nsSetMod D9 ?hs ?hr ?he ?_); (case hs => (repeat (first | exact Spl.here | apply Spl.there))); (case hr => kernel_rfl!); (case he => (intro hh kt; kernel_rfl!)); clear D9; intro hN D9; (try simp only [List.cons_append, List.nil_append] at D9)) | ((with_reducible refine' m_nsDel D9 ?hs ?hh ?he ?_); (case hs => (repeat (first | exact Spl.here | apply Spl.there))); (case hh => kernel_rfl!); (case he => kernel_rfl!); clear D9; intro hN D9; (try simp only [List.cons_append, List.nil_append] at D9)) | ((with_reducible refine' m_nsGet (rv := none) D9 ?hm ?e ?_); (case hm => (repeat (first | exact List.Mem.head _ | apply List.Mem.tail))); (case e => kernel_rfl!)) | with_reducible refine wpAny_askSetting ?_ | with_reducible refine wpAny_point ?_ | with_reducible refine PyProof.Rows.lt_int ?_ | ((with_reducible refine callWith_F (q := 280) ?fnq ?_); (case fnq => exact ⟨_, _, _, _, lg_KK KX D9 chg0 _ _ (by k_is)⟩)) | ((with_reducible refine' m_nsL (rv := some (.ref ia)) hns ?ee ?_); (case ee => kernel_rfl!)) | ((with_reducible refine' m_nsL (rv := some (.ref ib)) hns ?ee ?_); (case ee => kernel_rfl!)) | ((first | guard_hyp gan | guard_hyp k); with_reducible refine te_in' ?_) | with_reducible refine te_go ?_ | ((first | guard_hyp gan | guard_hyp k); with_reducible refine aq_in ?_) | with_reducible refine aq_go ?_ | with_reducible refine ae_go ?_ | ((first | guard_hyp gan | guard_hyp k); with_reducible refine wpAny_of_eq (by assumption) ?_) | ((first | guard_hyp gan | guard_hyp k); with_reducible refine m_peek KX D9 chg0 (by assumption) ?_) | wp_delta | with_reducible refine wpAny_holding ?_ | with_reducible refine wpAny_standAt ?_ | with_reducible refine wpAny_rule ?_ | with_reducible refine wpAny_fresh' ?_ | ((first | guard_hyp gan | guard_hyp k); with_reducible refine te_in ?_) | ((with_reducible refine' wpAny_load (D9.keep _ _ ?ko nochg) ?_); (case ko => with_reducible first | exact gan | exact gbt | exact gsl | exact gst | exact gI | exact gL | exact gG | exact gE | exact gM | exact gN | exact k.cls | exact k.ns | exact k.dsc | exact k.ini | exact k.lt | exact k.cell | exact gi | exact gj)) | ((with_reducible refine' wpAny_loadPart (D9.keep _ _ ?ko nochg) ?_); (case ko => with_reducible first | exact gan | exact gbt | exact gsl | exact gst | exact gI | exact gL | exact gG | exact gE | exact gM | exact gN | exact k.cls | exact k.ns | exact k.dsc | exact k.ini | exact k.lt | exact k.cell | exact gi | exact gj)) | ((with_reducible refine' m_loadPart D9 ?hm ?_); (case hm => (repeat (first | exact List.Mem.head _ | apply List.Mem.tail)))) | ((with_reducible refine' m_load D9 ?hm ?_); (case hm => (repeat (first | exact List.Mem.head _ | apply List.Mem.tail)))) | ((with_reducible refine' m_alloc D9 ?ho ?_); (case ho => exact rfl); clear D9; intro a hN D9) | ((with_reducible refine' m_updPart D9 ?hp ?hf ?_); (case hp => (repeat (first | exact Put.here | apply Put.there))); (case hf => exact rfl); clear D9; intro hN D9; try dsimp only at D9) | ((with_reducible refine' m_upd D9 ?hp ?hf ?_); (case hp => (repeat (first | exact Put.here | apply Put.there))); (case hf => exact rfl); clear D9; intro hN D9; try dsimp only at D9) | ((with_reducible refine' m_loadC D9 ?hm ?_); (case hm => exact List.Mem.head _)) | ((with_reducible refine' m_loadK KX D9 ?hc ?e ?_); (case hc => first | exact chg0 | exact chg33 _); (case e => k_is)) | ((with_reducible refine' PySem.wpAny_ite_false ?zz ?_); (case zz => kernel_rfl!)) | ((with_reducible refine' PySem.wpAny_ite_true ?zz ?_); (case zz => kernel_rfl!)))
  obtain ⟨aK, rfl⟩ : ∃ x, x = a := ⟨a, rfl⟩
  obtain ⟨aNs, rfl⟩ : ∃ x, x = a := ⟨a, rfl⟩
  generalize hF : List.filter _ _ = fl
  have hfl : fl = [.type "object"] := by rw [← hF]; simp
  clear hF; subst hfl
  repeat (first | with_reducible refine bq ?_ | with_reducible refine bq_go ?_ | with_reducible refine rv_go ?_ | with_reducible refine fin_done ?_ | with_reducible refine fin_again ?_ | with_reducible refine err_go ?_ | with_reducible refine rv_err ?_ | with_reducible refine wpAny_pure ?_ | with_reducible refine eq_in ?_ | with_reducible refine eq_go ?_ | ((with_reducible refine PySem.wpAny_enterFrame ?hl ?hd ?_); (case hl => exact (TW _ (lg_KK KX D9 (by first | exact chg0 | exact chg33 _))).nolimit); (case hd => exact Nat.le_of_ble_eq_true rfl)) | ((with_reducible refine' m_nsGetK KX D9 ?hc ?e ?_); (case hc => first | exact chg0 | exact chg33 _); (case e => k_is)) | ((with_reducible refine' m_nsSetNew D9 ?hs ?hr ?he ?_); (case hs => (repeat (first | exact Spl.here | apply Spl.there))); (case hr => kernel_rfl!); (case he => (intro hh kt; kernel_rfl!)); clear D9; intro hh kt hN D9; (try simp only [List.cons_append, List.nil_append] at D9)) | ((with_reducible refine' m_nsSetMod D9 ?hs ?hr ?he ?_); (case hs => (repeat (first | exact Spl.here | apply Spl.there))); (case hr => kernel_rfl!); (case he => (intro hh kt; kernel_rfl!)); clear D9; intro hN D9; (try simp only [List.cons_append, List.nil_append] at D9)) | ((with_reducible refine' m_nsDel D9 ?hs ?hh ?he ?_); (case hs => (repeat (first | exact Spl.here | apply Spl.there))); (case hh => kernel_rfl!); (case he => kernel_rfl!); clear D9; intro hN D9; (try simp only [List.cons_append, List.nil_append] at D9)) | ((with_reducible refine' m_nsGet (rv := none) D9 ?hm ?e ?_); (case hm => (repeat (first | exact List.Mem.head _ | apply List.Mem.tail))); (case e => kernel_rfl!)) | with_reducible refine wpAny_askSetting ?_ | with_reducible refine wpAny_point ?_ | with_reducible refine PyProof.Rows.lt_int ?_ | ((with_reducible refine callWith_F (q := 280) ?fnq ?_); (case fnq => exact ⟨_, _, _, _, lg_KK KX D9 chg0 _ _ (by k_is)⟩)) | ((with_reducible refine' m_nsL (rv := some (.ref ia)) hns ?ee ?_); (case ee => kernel_rfl!)) | ((with_reducible refine' m_nsL (rv := some (.ref ib)) hns ?ee ?_); (case ee => kernel_rfl!)) | ((first | guard_hyp gan | guard_hyp k); with_reducible refine te_in' ?_) | with_reducible refine te_go ?_ | ((first | guard_hyp gan | guard_hyp k); with_reducible refine aq_in ?_) | with_reducible refine aq_go ?_ | with_reducible refine ae_go ?_ | ((first | guard_hyp gan | guard_hyp k); with_reducible refine wpAny_of_eq (by assumption) ?_) | ((first | guard_hyp gan | guard_hyp k); with_reducible refine m_peek KX D9 chg0 (by assumption) ?_) | wp_delta | with_reducible refine wpAny_holding ?_ | with_reducible refine wpAny_standAt ?_ | with_reducible refine wpAny_rule ?_ | with_reducible refine wpAny_fresh' ?_ | ((first | guard_hyp gan | guard_hyp k); with_reducible refine te_in ?_) | ((with_reducible refine' wpAny_load (D9.keep _ _ ?ko nochg) ?_); (case ko => with_reducible first | exact gan | exact gbt | exact gsl | exact gst | exact gI | exact gL | exact gG | exact gE | exact gM | exact gN | exact k.cls | exact k.ns | exact k.dsc | exact k.ini | exact k.lt | exact k.cell | exact gi | exact gj)) | ((with_reducible refine' wpAny_loadPart (D9.keep _ _ ?ko nochg) ?_); (case ko => with_reducible first | exact gan | exact gbt | exact gsl | exact gst | exact gI | exact gL | exact gG | exact gE | exact gM | exact gN | exact k.cls | exact k.ns | exact k.dsc | exact k.ini | exact k.lt | exact k.cell | exact gi | exact gj)) | ((with_reducible refine' m_loadPart D9 ?hm ?_); (case hm => (repeat (first | exact List.Mem.head _ | apply List.Mem.tail)))) | ((with_reducible refine' m_load D9 ?hm ?_); (case hm => (repeat (first | exact List.Mem.head _ | apply List.Mem.tail)))) | ((with_reducible refine' m_alloc D9 ?ho ?_); (case ho => exact rfl); clear D9; intro a hN D9) | ((with_reducible refine' m_updPart D9 ?hp ?hf ?_); (case hp => (repeat (first | exact Put.here | apply Put.there))); (case hf => exact rfl); clear D9; intro hN D9; try dsimp only at D9) | ((with_reducible refine' m_upd D9 ?hp ?hf ?_); (case hp => (repeat (first | exact Put.here | apply Put.there))); (case hf => exact rfl); clear D9; intro hN D9; try dsimp only at D9) | ((with_reducible refine' m_loadC D9 ?hm ?_); (case hm => exact List.Mem.head _)) | ((with_reducible refine' m_loadK KX D9 ?hc ?e ?_); (case hc => first | exact chg0 | exact chg33 _); (case e => k_is)) | ((with_reducible refine' PySem.wpAny_ite_false ?zz ?_); (case zz => kernel_rfl!)) | ((with_reducible refine' PySem.wpAny_ite_true ?zz ?_); (case zz => kernel_rfl!)))
  dsimp only
  repeat (first | with_reducible refine bq ?_ | with_reducible refine bq_go ?_ | with_reducible refine rv_go ?_ | with_reducible refine fin_done ?_ | with_reducible refine fin_again ?_ | with_reducible refine err_go ?_ | with_reducible refine rv_err ?_ | with_reducible refine wpAny_pure ?_ | with_reducible refine eq_in ?_ | with_reducible refine eq_go ?_ | ((with_reducible refine PySem.wpAny_enterFrame ?hl ?hd ?_); (case hl => exact (TW _ (lg_KK KX D9 (by first | exact chg0 | exact chg33 _))).nolimit); (case hd => exact Nat.le_of_ble_eq_true rfl)) | ((with_reducible refine' m_nsGetK KX D9 ?hc ?e ?_); (case hc => first | exact chg0 | exact chg33 _); (case e => k_is)) | ((with_reducible refine' m_nsSetNew D9 ?hs ?hr ?he ?_); (case hs => (repeat (first | exact Spl.here | apply Spl.there))); (case hr => kernel_rfl!); (case he => (intro hh kt; kernel_rfl!)); clear D9; intro hh kt hN D9; (try simp only [List.cons_append, List.nil_append] at D9)) | ((with_reducible refine' m_nsSetMod D9 ?hs ?hr ?he ?_); (case hs => (repeat (first | exact Spl.here | apply Spl.there))); (case hr => kernel_rfl!); (case he => (intro hh kt; kernel_rfl!)); clear D9; intro hN D9; (try simp only [List.cons_append, List.nil_append] at D9)) | ((with_reducible refine' m_nsDel D9 ?hs ?hh ?he ?_); (case hs => (repeat (first | exact Spl.here | apply Spl.there))); (case hh => kernel_rfl!); (case he => kernel_rfl!); clear D9; intro hN D9; (try simp only [List.cons_append, List.nil_append] at D9)) | ((with_reducible refine' m_nsGet (rv := none) D9 ?hm ?e ?_); (case hm => (repeat (first | exact List.Mem.head _ | apply List.Mem.tail))); (case e => kernel_rfl!)) | with_reducible refine wpAny_askSetting ?_ | with_reducible refine wpAny_point ?_ | with_reducible refine PyProof.Rows.lt_int ?_ | ((with_reducible refine callWith_F (q := 280) ?fnq ?_); (case fnq => exact ⟨_, _, _, _, lg_KK KX D9 chg0 _ _ (by k_is)⟩)) | ((with_reducible refine' m_nsL (rv := some (.ref ia)) hns ?ee ?_); (case ee => kernel_rfl!)) | ((with_reducible refine' m_nsL (rv := some (.ref ib)) hns ?ee ?_); (case ee => kernel_rfl!)) | ((first | guard_hyp gan | guard_hyp k); with_reducible refine te_in' ?_) | with_reducible refine te_go ?_ | ((first | guard_hyp gan | guard_hyp k); with_reducible refine aq_in ?_) | with_reducible refine aq_go ?_ | with_reducible refine ae_go ?_ | ((first | guard_hyp gan | guard_hyp k); with_reducible refine wpAny_of_eq (by assumption) ?_) | ((first | guard_hyp gan | guard_hyp k); with_reducible refine m_peek KX D9 chg0 (by assumption) ?_) | wp_delta | with_reducible refine wpAny_holding ?_ | with_reducible refine wpAny_standAt ?_ | with_reducible refine wpAny_rule ?_ | with_reducible refine wpAny_fresh' ?_ | ((first | guard_hyp gan | guard_hyp k); with_reducible refine te_in ?_) | ((with_reducible refine' wpAny_load (D9.keep _ _ ?ko nochg) ?_); (case ko => with_reducible first | exact gan | exact gbt | exact gsl | exact gst | exact gI | exact gL | exact gG | exact gE | exact gM | exact gN | exact k.cls | exact k.ns | exact k.dsc | exact k.ini | exact k.lt | exact k.cell | exact gi | exact gj)) | ((with_reducible refine' wpAny_loadPart (D9.keep _ _ ?ko nochg) ?_); (case ko => with_reducible first | exact gan | exact gbt | exact gsl | exact gst | exact gI | exact gL | exact gG | exact gE | exact gM | exact gN | exact k.cls | exact k.ns | exact k.dsc | exact k.ini | exact k.lt | exact k.cell | exact gi | exact gj)) | ((with_reducible refine' m_loadPart D9 ?hm ?_); (case hm => (repeat (first | exact List.Mem.head _ | apply List.Mem.tail)))) | ((with_reducible refine' m_load D9 ?hm ?_); (case hm => (repeat (first | exact List.Mem.head _ | apply List.Mem.tail)))) | ((with_reducible refine' m_alloc D9 ?ho ?_); (case ho => exact rfl); clear D9; intro a hN D9) | ((with_reducible refine' m_updPart D9 ?hp ?hf ?_); (case hp => (repeat (first | exact Put.here | apply Put.there))); (case hf => exact rfl); clear D9; intro hN D9; try dsimp only at D9) | ((with_reducible refine' m_upd D9 ?hp ?hf ?_); (case hp => (repeat (first | exact Put.here | apply Put.there))); (case hf => exact rfl); clear D9; intro hN D9; try dsimp only at D9) | ((with_reducible refine' m_loadC D9 ?hm ?_); (case hm => exact List.Mem.head _)) | ((with_reducible refine' m_loadK KX D9 ?hc ?e ?_); (case hc => first | exact chg0 | exact chg33 _); (case e => k_is)) | ((with_reducible refine' PySem.wpAny_ite_false ?zz ?_); (case zz => kernel_rfl!)) | ((with_reducible refine' PySem.wpAny_ite_true ?zz ?_); (case zz => kernel_rfl!)))
  unfold typeLookup
  repeat (first | with_reducible refine bq ?_ | with_reducible refine bq_go ?_ | with_reducible refine rv_go ?_ | with_reducible refine fin_done ?_ | with_reducible refine fin_again ?_ | with_reducible refine err_go ?_ | with_reducible refine rv_err ?_ | with_reducible refine wpAny_pure ?_ | with_reducible refine eq_in ?_ | with_reducible refine eq_go ?_ | ((with_reducible refine PySem.wpAny_enterFrame ?hl ?hd ?_); (case hl => exact (TW _ (lg_KK KX D9 (by first | exact chg0 | exact chg33 _))).nolimit); (case hd => exact Nat.le_of_ble_eq_true rfl)) | ((with_reducible refine' m_nsGetK KX D9 ?hc ?e ?_); (case hc => first | exact chg0 | exact chg33 _); (case e => k_is)) | ((with_reducible refine' m_nsSetNew D9 ?hs ?hr ?he ?_); (case hs => (repeat (first | exact Spl.here | apply Spl.there))); (case hr => kernel_rfl!); (case he => (intro hh kt; kernel_rfl!)); clear D9; intro hh kt hN D9; (try simp only [List.cons_append, List.nil_append] at D9)) | ((with_reducible refine' m_nsSetMod D9 ?hs ?hr ?he ?_); (case hs => (repeat (first | exact Spl.here | apply Spl.there))); (case hr => kernel_rfl!); (case he => (intro hh kt; kernel_rfl!)); clear D9; intro hN D9; (try simp only [List.cons_append, List.nil_append] at D9)) | ((with_reducible refine' m_nsDel D9 ?hs ?hh ?he ?_); (case hs => (repeat (first | exact Spl.here | apply Spl.there))); (case hh => kernel_rfl!); (case he => kernel_rfl!); clear D9; intro hN D9; (try simp only [List.cons_append, List.nil_append] at D9)) | ((with_reducible refine' m_nsGet (rv := none) D9 ?hm ?e ?_); (case hm => (repeat (first | exact List.Mem.head _ | apply List.Mem.tail))); (case e => kernel_rfl!)) | with_reducible refine wpAny_askSetting ?_ | with_reducible refine wpAny_point ?_ | with_reducible refine PyProof.Rows.lt_int ?_ | ((with_reducible refine callWith_F (q := 280) ?fnq ?_); (case fnq => exact ⟨_, _, _, _, lg_KK KX D9 chg0 _ _ (by k_is)⟩)) | ((with_reducible refine' m_nsL (rv := some (.ref ia)) hns ?ee ?_); (case ee => kernel_rfl!)) | ((with_reducible refine' m_nsL (rv := some (.ref ib)) hns ?ee ?_); (case ee => kernel_rfl!)) | ((first | guard_hyp gan | guard_hyp k); with_reducible refine te_in' ?_) | with_reducible refine te_go ?_ | ((first | guard_hyp gan | guard_hyp k); with_reducible refine aq_in ?_) | with_reducible refine aq_go ?_ | with_reducible refine ae_go ?_ | ((first | guard_hyp gan | guard_hyp k); with_reducible refine wpAny_of_eq (by assumption) ?_) | ((first | guard_hyp gan | guard_hyp k); with_reducible refine m_peek KX D9 chg0 (by assumption) ?_) | wp_delta | with_reducible refine wpAny_holding ?_ | with_reducible refine wpAny_standAt ?_ | with_reducible refine wpAny_rule ?_ | with_reducible refine wpAny_fresh' ?_ | ((first | guard_hyp gan | guard_hyp k); with_reducible refine te_in ?_) | ((with_reducible refine' wpAny_load (D9.keep _ _ ?ko nochg) ?_); (case ko => with_reducible first | exact gan | exact gbt | exact gsl | exact gst | exact gI | exact gL | exact gG | exact gE | exact gM | exact gN | exact k.cls | exact k.ns | exact k.dsc | exact k.ini | exact k.lt | exact k.cell | exact gi | exact gj)) | ((with_reducible refine' wpAny_loadPart (D9.keep _ _ ?ko nochg) ?_); (case ko => with_reducible first | exact gan | exact gbt | exact gsl | exact gst | exact gI | exact gL | exact gG | exact gE | exact gM | exact gN | exact k.cls | exact k.ns | exact k.dsc | exact k.ini | exact k.lt | exact k.cell | exact gi | exact gj)) | ((with_reducible refine' m_loadPart D9 ?hm ?_); (case hm => (repeat (first | exact List.Mem.head _ | apply List.Mem.tail)))) | ((with_reducible refine' m_load D9 ?hm ?_); (case hm => (repeat (first | exact List.Mem.head _ | apply List.Mem.tail)))) | ((with_reducible refine' m_alloc D9 ?ho ?_); (case ho => exact rfl); clear D9; intro a hN D9) | ((with_reducible refine' m_updPart D9 ?hp ?hf ?_); (case hp => (repeat (first | exact Put.here | apply Put.there))); (case hf => exact rfl); clear D9; intro hN D9; try dsimp only at D9) | ((with_reducible refine' m_upd D9 ?hp ?hf ?_); (case hp => (repeat (first | exact Put.here | apply Put.there))); (case hf => exact rfl); clear D9; intro hN D9; try dsimp only at D9) | ((with_reducible refine' m_loadC D9 ?hm ?_); (case hm => exact List.Mem.head _)) | ((with_reducible refine' m_loadK KX D9 ?hc ?e ?_); (case hc => first | exact chg0 | exact chg33 _); (case e => k_is)) | ((with_reducible refine' PySem.wpAny_ite_false ?zz ?_); (case zz => kernel_rfl!)) | ((with_reducible refine' PySem.wpAny_ite_true ?zz ?_); (case zz => kernel_rfl!)))
  obtain ⟨aD, rfl⟩ : ∃ x, x = a := ⟨a, rfl⟩
  rename_i hx kx _ _ _
  replace D9 := Lg.cast (news' := [(aD, dscK aK tk1), (aK, clsK aK aNs bt tN (Str.ofString "cmp_to_key.<locals>.K") t2), (aNs, dObj (.type "dict") none #[] [⟨a1, .str (Str.ofString "__module__") k1, .str (Str.ofString "cpy313.functools") t1⟩, ⟨a3, .str (Str.ofString "__firstlineno__") k3, .int 5 t3⟩, ⟨a4, .str (Str.ofString "__slots__") k4, .ref sl⟩, ⟨a5, .str (Str.ofString "__init__") k5, .ref fI⟩, ⟨a6, .str (Str.ofString "__lt__") k6, .ref fL⟩, ⟨a7, .str (Str.ofString "__gt__") k7, .ref fG⟩, ⟨a8, .str (Str.ofString "__eq__") k8, .ref fE⟩, ⟨a9, .str (Str.ofString "__le__") k9, .ref fM⟩, ⟨a10, .str (Str.ofString "__ge__") k10, .ref fN⟩, ⟨a11, .str (Str.ofString "__hash__") k11, .none⟩, ⟨a12, .str (Str.ofString "__static_attributes__") k12, .ref st⟩, ⟨hx, .str (Str.ofString "obj") kx, .ref aD⟩, ⟨hh, .str (Str.ofString "__doc__") kt, .none⟩] 3), (al, { cls := .type "list", data := .seq #[.str (Str.ofString "obj") ts] 1 })]) D9 (by kernel_rfl!)
  have gK : hN.get? aK = some (clsK aK aNs bt tN (Str.ofString "cmp_to_key.<locals>.K") t2) := (D9.nw _ (List.Mem.tail _ (List.Mem.head _))).1
  have KX1 := lg_KK KX D9 chg0
  unfold clsK at gK
  refine wpAny_mono (Q := fun r s' => ∃ (a : Addr) (h' : Heap) (tk' : Nat), r = Value.ref a ∧ s' = (⟨h', g, d, tk', os⟩ : Shared) ∧ Mem hN h' [] [(a, { cls := .type "super", data := .fields #[.ref aK, .ref aK, .ref aK] })]) (E := fun _ _ => False) ?_ ?_ (fun _ _ h => h.elim)
  · (generalize PW = prog; x_run)
  clear KX1 gK
  refine post1 D9 ?_
  clear D9
  intro aS hN tk5 D9
  have sg1 : typeLookup (.type "super") "__getattribute__" = pure (some (.builtin "super.__getattribute__")) := F.ks_slot_super_ga.lookup
  have sg2 := F.ks_slot_super_ga.bind (.ref aS)
  repeat (first | with_reducible refine bq ?_ | with_reducible refine bq_go ?_ | with_reducible refine rv_go ?_ | with_reducible refine fin_done ?_ | with_reducible refine fin_again ?_ | with_reducible refine err_go ?_ | with_reducible refine rv_err ?_ | with_reducible refine wpAny_pure ?_ | with_reducible refine eq_in ?_ | with_reducible refine eq_go ?_ | ((with_reducible refine PySem.wpAny_enterFrame ?hl ?hd ?_); (case hl => exact (TW _ (lg_KK KX D9 (by first | exact chg0 | exact chg33 _))).nolimit); (case hd => exact Nat.le_of_ble_eq_true rfl)) | ((with_reducible refine' m_nsGetK KX D9 ?hc ?e ?_); (case hc => first | exact chg0 | exact chg33 _); (case e => k_is)) | ((with_reducible refine' m_nsSetNew D9 ?hs ?hr ?he ?_); (case hs => (repeat (first | exact Spl.here | apply Spl.there))); (case hr => kernel_rfl!); (case he => (intro hh kt; kernel_rfl!)); clear D9; intro hh kt hN D9; (try simp only [List.cons_append, List.nil_append] at D9)) | ((with_reducible refine' m_nsSetMod D9 ?hs ?hr ?he ?_); (case hs => (repeat (first | exact Spl.here | apply Spl.there))); (case hr => kernel_rfl!); (case he => (intro hh kt; kernel_rfl!)); clear D9; intro hN D9; (try simp only [List.cons_append, List.nil_append] at D9)) | ((with_reducible refine' m_nsDel D9 ?hs ?hh ?he ?_); (case hs => (repeat (first | exact Spl.here | apply Spl.there))); (case hh => kernel_rfl!); (case he => kernel_rfl!); clear D9; intro hN D9; (try simp only [List.cons_append, List.nil_append] at D9)) | ((with_reducible refine' m_nsGet (rv := none) D9 ?hm ?e ?_); (case hm => (repeat (first | exact List.Mem.head _ | apply List.Mem.tail))); (case e => kernel_rfl!)) | with_reducible refine wpAny_askSetting ?_ | with_reducible refine wpAny_point ?_ | with_reducible refine PyProof.Rows.lt_int ?_ | ((with_reducible refine callWith_F (q := 280) ?fnq ?_); (case fnq => exact ⟨_, _, _, _, lg_KK KX D9 chg0 _ _ (by k_is)⟩)) | ((with_reducible refine' m_nsL (rv := some (.ref ia)) hns ?ee ?_); (case ee => kernel_rfl!)) | ((with_reducible refine' m_nsL (rv := some (.ref ib)) hns ?ee ?_); (case ee => kernel_rfl!)) | ((first | guard_hyp gan | guard_hyp k); with_reducible refine te_in' ?_) | with_reducible refine te_go ?_ | ((first | guard_hyp gan | guard_hyp k); with_reducible refine aq_in ?_) | with_reducible refine aq_go ?_ | with_reducible refine ae_go ?_ | ((first | guard_hyp gan | guard_hyp k); with_reducible refine wpAny_of_eq (by assumption) ?_) | ((first | guard_hyp gan | guard_hyp k); with_reducible refine m_peek KX D9 chg0 (by assumption) ?_) | wp_delta | with_reducible refine wpAny_holding ?_ | with_reducible refine wpAny_standAt ?_ | with_reducible refine wpAny_rule ?_ | with_reducible refine wpAny_fresh' ?_ | ((first | guard_hyp gan | guard_hyp k); with_reducible refine te_in ?_) | ((with_reducible refine' wpAny_load (D9.keep _ _ ?ko nochg) ?_); (case ko => with_reducible first | exact gan | exact gbt | exact gsl | exact gst | exact gI | exact gL | exact gG | exact gE | exact gM | exact gN | exact k.cls | exact k.ns | exact k.dsc | exact k.ini | exact k.lt | exact k.cell | exact gi | exact gj)) | ((with_reducible refine' wpAny_loadPart (D9.keep _ _ ?ko nochg) ?_); (case ko => with_reducible first | exact gan | exact gbt | exact gsl | exact gst | exact gI | exact gL | exact gG | exact gE | exact gM | exact gN | exact k.cls | exact k.ns | exact k.dsc | exact k.ini | exact k.lt | exact k.cell | exact gi | exact gj)) | ((with_reducible refine' m_loadPart D9 ?hm ?_); (case hm => (repeat (first | exact List.Mem.head _ | apply List.Mem.tail)))) | ((with_reducible refine' m_load D9 ?hm ?_); (case hm => (repeat (first | exact List.Mem.head _ | apply List.Mem.tail)))) | ((with_reducible refine' m_alloc D9 ?ho ?_); (case ho => exact rfl); clear D9; intro a hN D9) | ((with_reducible refine' m_updPart D9 ?hp ?hf ?_); (case hp => (repeat (first | exact Put.here | apply Put.there))); (case hf => exact rfl); clear D9; intro hN D9; try dsimp only at D9) | ((with_reducible refine' m_upd D9 ?hp ?hf ?_); (case hp => (repeat (first | exact Put.here | apply Put.there))); (case hf => exact rfl); clear D9; intro hN D9; try dsimp only at D9) | ((with_reducible refine' m_loadC D9 ?hm ?_); (case hm => exact List.Mem.head _)) | ((with_reducible refine' m_loadK KX D9 ?hc ?e ?_); (case hc => first | exact chg0 | exact chg33 _); (case e => k_is)) | ((with_reducible refine' PySem.wpAny_ite_false ?zz ?_); (case zz => kernel_rfl!)) | ((with_reducible refine' PySem.wpAny_ite_true ?zz ?_); (case zz => kernel_rfl!)))
  have gS : hN.get? aS = some { cls := .type "super", data := .fields #[.ref aK, .ref aK, .ref aK] } := (D9.nw _ (List.Mem.head _)).1
  have gT : (⟨hN, g, d, tk5 + 1, os⟩ : Shared).TypeIs (.ref aS) "super" := ⟨_, gS, rfl⟩
  refine wpAny_call_entry (self := .ref aS) (rest := [.str (Str.ofString "__init_subclass__") tk5]) F.ks_slot_super_ga gT F.ks_entry_super_ga ?_ (F.ks_gaArgs_super _ _)
  unfold Builtin.«super.__getattribute__»
  repeat (first | with_reducible refine bq ?_ | with_reducible refine bq_go ?_ | with_reducible refine rv_go ?_ | with_reducible refine fin_done ?_ | with_reducible refine fin_again ?_ | with_reducible refine err_go ?_ | with_reducible refine rv_err ?_ | with_reducible refine wpAny_pure ?_ | with_reducible refine eq_in ?_ | with_reducible refine eq_go ?_ | ((with_reducible refine PySem.wpAny_enterFrame ?hl ?hd ?_); (case hl => exact (TW _ (lg_KK KX D9 (by first | exact chg0 | exact chg33 _))).nolimit); (case hd => exact Nat.le_of_ble_eq_true rfl)) | ((with_reducible refine' m_nsGetK KX D9 ?hc ?e ?_); (case hc => first | exact chg0 | exact chg33 _); (case e => k_is)) | ((with_reducible refine' m_nsSetNew D9 ?hs ?hr ?he ?_); (case hs => (repeat (first | exact Spl.here | apply Spl.there))); (case hr => kernel_rfl!); (case he => (intro hh kt; kernel_rfl!)); clear D9; intro hh kt hN D9; (try simp only [List.cons_append, List.nil_append] at D9)) | ((with_reducible refine' m_nsSetMod D9 ?hs ?hr ?he ?_); (case hs => (repeat (first | exact Spl.here | apply Spl.there))); (case hr => kernel_rfl!); (case he => (intro hh kt; kernel_rfl!)); clear D9; intro hN D9; (try simp only [List.cons_append, List.nil_append] at D9)) | ((with_reducible refine' m_nsDel D9 ?hs ?hh ?he ?_); (case hs => (repeat (first | exact Spl.here | apply Spl.there))); (case hh => kernel_rfl!); (case he => kernel_rfl!); clear D9; intro hN D9; (try simp only [List.cons_append, List.nil_append] at D9)) | ((with_reducible refine' m_nsGet (rv := none) D9 ?hm ?e ?_); (case hm => (repeat (first | exact List.Mem.head _ | apply List.Mem.tail))); (case e => kernel_rfl!)) | with_reducible refine wpAny_askSetting ?_ | with_reducible refine wpAny_point ?_ | with_reducible refine PyProof.Rows.lt_int ?_ | ((with_reducible refine callWith_F (q := 280) ?fnq ?_); (case fnq => exact ⟨_, _, _, _, lg_KK KX D9 chg0 _ _ (by k_is)⟩)) | ((with_reducible refine' m_nsL (rv := some (.ref ia)) hns ?ee ?_); (case ee => kernel_rfl!)) | ((with_reducible refine' m_nsL (rv := some (.ref ib)) hns ?ee ?_); (case ee => kernel_rfl!)) | ((first | guard_hyp gan | guard_hyp k); with_reducible refine te_in' ?_) | with_reducible refine te_go ?_ | ((first | guard_hyp gan | guard_hyp k); with_reducible refine aq_in ?_) | with_reducible refine aq_go ?_ | with_reducible refine ae_go ?_ | ((first | guard_hyp gan | guard_hyp k); with_reducible refine wpAny_of_eq (by assumption) ?_) | ((first | guard_hyp gan | guard_hyp k); with_reducible refine m_peek KX D9 chg0 (by assumption) ?_) | wp_delta | with_reducible refine wpAny_holding ?_ | with_reducible refine wpAny_standAt ?_ | with_reducible refine wpAny_rule ?_ | with_reducible refine wpAny_fresh' ?_ | ((first | guard_hyp gan | guard_hyp k); with_reducible refine te_in ?_) | ((with_reducible refine' wpAny_load (D9.keep _ _ ?ko nochg) ?_); (case ko => with_reducible first | exact gan | exact gbt | exact gsl | exact gst | exact gI | exact gL | exact gG | exact gE | exact gM | exact gN | exact k.cls | exact k.ns | exact k.dsc | exact k.ini | exact k.lt | exact k.cell | exact gi | exact gj)) | ((with_reducible refine' wpAny_loadPart (D9.keep _ _ ?ko nochg) ?_); (case ko => with_reducible first | exact gan | exact gbt | exact gsl | exact gst | exact gI | exact gL | exact gG | exact gE | exact gM | exact gN | exact k.cls | exact k.ns | exact k.dsc | exact k.ini | exact k.lt | exact k.cell | exact gi | exact gj)) | ((with_reducible refine' m_loadPart D9 ?hm ?_); (case hm => (repeat (first | exact List.Mem.head _ | apply List.Mem.tail)))) | ((with_reducible refine' m_load D9 ?hm ?_); (case hm => (repeat (first | exact List.Mem.head _ | apply List.Mem.tail)))) | ((with_reducible refine' m_alloc D9 ?ho ?_); (case ho => exact rfl); clear D9; intro a hN D9) | ((with_reducible refine' m_updPart D9 ?hp ?hf ?_); (case hp => (repeat (first | exact Put.here | apply Put.there))); (case hf => exact rfl); clear D9; intro hN D9; try dsimp only at D9) | ((with_reducible refine' m_upd D9 ?hp ?hf ?_); (case hp => (repeat (first | exact Put.here | apply Put.there))); (case hf => exact rfl); clear D9; intro hN D9; try dsimp only at D9) | ((with_reducible refine' m_loadC D9 ?hm ?_); (case hm => exact List.Mem.head _)) | ((with_reducible refine' m_loadK KX D9 ?hc ?e ?_); (case hc => first | exact chg0 | exact chg33 _); (case e => k_is)) | ((with_reducible refine' PySem.wpAny_ite_false ?zz ?_); (case zz => kernel_rfl!)) | ((with_reducible refine' PySem.wpAny_ite_true ?zz ?_); (case zz => kernel_rfl!)))
  generalize hA : List.drop 1 (List.dropWhile _ _) = after
  have hA' : after = [.type "object"] := by rw [← hA]; simp
  clear hA; subst hA'
  repeat (first | with_reducible refine bq ?_ | with_reducible refine bq_go ?_ | with_reducible refine rv_go ?_ | with_reducible refine fin_done ?_ | with_reducible refine fin_again ?_ | with_reducible refine err_go ?_ | with_reducible refine rv_err ?_ | with_reducible refine wpAny_pure ?_ | with_reducible refine eq_in ?_ | with_reducible refine eq_go ?_ | ((with_reducible refine PySem.wpAny_enterFrame ?hl ?hd ?_); (case hl => exact (TW _ (lg_KK KX D9 (by first | exact chg0 | exact chg33 _))).nolimit); (case hd => exact Nat.le_of_ble_eq_true rfl)) | ((with_reducible refine' m_nsGetK KX D9 ?hc ?e ?_); (case hc => first | exact chg0 | exact chg33 _); (case e => k_is)) | ((with_reducible refine' m_nsSetNew D9 ?hs ?hr ?he ?_); (case hs => (repeat (first | exact Spl.here | apply Spl.there))); (case hr => kernel_rfl!); (case he => (intro hh kt; kernel_rfl!)); clear D9; intro hh kt hN D9; (try simp only [List.cons_append, List.nil_append] at D9)) | ((with_reducible refine' m_nsSetMod D9 ?hs ?hr ?he ?_); (case hs => (repeat (first | exact Spl.here | apply Spl.there))); (case hr => kernel_rfl!); (case he => (intro hh kt; kernel_rfl!)); clear D9; intro hN D9; (try simp only [List.cons_append, List.nil_append] at D9)) | ((with_reducible refine' m_nsDel D9 ?hs ?hh ?he ?_); (case hs => (repeat (first | exact Spl.here | apply Spl.there))); (case hh => kernel_rfl!); (case he => kernel_rfl!); clear D9; intro hN D9; (try simp only [List.cons_append, List.nil_append] at D9)) | ((with_reducible refine' m_nsGet (rv := none) D9 ?hm ?e ?_); (case hm => (repeat (first | exact List.Mem.head _ | apply List.Mem.tail))); (case e => kernel_rfl!)) | with_reducible refine wpAny_askSetting ?_ | with_reducible refine wpAny_point ?_ | with_reducible refine PyProof.Rows.lt_int ?_ | ((with_reducible refine callWith_F (q := 280) ?fnq ?_); (case fnq => exact ⟨_, _, _, _, lg_KK KX D9 chg0 _ _ (by k_is)⟩)) | ((with_reducible refine' m_nsL (rv := some (.ref ia)) hns ?ee ?_); (case ee => kernel_rfl!)) | ((with_reducible refine' m_nsL (rv := some (.ref ib)) hns ?ee ?_); (case ee => kernel_rfl!)) | ((first | guard_hyp gan | guard_hyp k); with_reducible refine te_in' ?_) | with_reducible refine te_go ?_ | ((first | guard_hyp gan | guard_hyp k); with_reducible refine aq_in ?_) | with_reducible refine aq_go ?_ | with_reducible refine ae_go ?_ | ((first | guard_hyp gan | guard_hyp k); with_reducible refine wpAny_of_eq (by assumption) ?_) | ((first | guard_hyp gan | guard_hyp k); with_reducible refine m_peek KX D9 chg0 (by assumption) ?_) | wp_delta | with_reducible refine wpAny_holding ?_ | with_reducible refine wpAny_standAt ?_ | with_reducible refine wpAny_rule ?_ | with_reducible refine wpAny_fresh' ?_ | ((first | guard_hyp gan | guard_hyp k); with_reducible refine te_in ?_) | ((with_reducible refine' wpAny_load (D9.keep _ _ ?ko nochg) ?_); (case ko => with_reducible first | exact gan | exact gbt | exact gsl | exact gst | exact gI | exact gL | exact gG | exact gE | exact gM | exact gN | exact k.cls | exact k.ns | exact k.dsc | exact k.ini | exact k.lt | exact k.cell | exact gi | exact gj)) | ((with_reducible refine' wpAny_loadPart (D9.keep _ _ ?ko nochg) ?_); (case ko => with_reducible first | exact gan | exact gbt | exact gsl | exact gst | exact gI | exact gL | exact gG | exact gE | exact gM | exact gN | exact k.cls | exact k.ns | exact k.dsc | exact k.ini | exact k.lt | exact k.cell | exact gi | exact gj)) | ((with_reducible refine' m_loadPart D9 ?hm ?_); (case hm => (repeat (first | exact List.Mem.head _ | apply List.Mem.tail)))) | ((with_reducible refine' m_load D9 ?hm ?_); (case hm => (repeat (first | exact List.Mem.head _ | apply List.Mem.tail)))) | ((with_reducible refine' m_alloc D9 ?ho ?_); (case ho => exact rfl); clear D9; intro a hN D9) | ((with_reducible refine' m_updPart D9 ?hp ?hf ?_); (case hp => (repeat (first | exact Put.here | apply Put.there))); (case hf => exact rfl); clear D9; intro hN D9; try dsimp only at D9) | ((with_reducible refine' m_upd D9 ?hp ?hf ?_); (case hp => (repeat (first | exact Put.here | apply Put.there))); (case hf => exact rfl); clear D9; intro hN D9; try dsimp only at D9) | ((with_reducible refine' m_loadC D9 ?hm ?_); (case hm => exact List.Mem.head _)) | ((with_reducible refine' m_loadK KX D9 ?hc ?e ?_); (case hc => first | exact chg0 | exact chg33 _); (case e => k_is)) | ((with_reducible refine' PySem.wpAny_ite_false ?zz ?_); (case zz => kernel_rfl!)) | ((with_reducible refine' PySem.wpAny_ite_true ?zz ?_); (case zz => kernel_rfl!)))
  have hO : ∀ x y : Value, x = y → (if (x == y) = true then Value.none else x) = Value.none := fun x y e => by rw [e]; simp
  rw [hO]
  rotate_left
  · rfl
  have KX1 := lg_KK KX D9 chg0
  refine wpAny_mono (Q := fun r s' => ∃ (a : Addr) (h' : Heap) (tk' : Nat), r = Value.ref a ∧ s' = (⟨h', g, d, tk', os⟩ : Shared) ∧ Mem hN h' [] [(a, { cls := .type "builtin_function_or_method", data := .fields #[.builtin "object.__init_subclass__", .ref aK] })]) (E := fun _ _ => False) ?_ ?_ (fun _ _ h => h.elim)
  · have gK : hN.get? aK = some (clsK aK aNs bt tN (Str.ofString "cmp_to_key.<locals>.K") t2) := (D9.nw _ (List.Mem.tail _ (List.Mem.tail _ (List.Mem.head _)))).1
    unfold clsK at gK
    (generalize PW = prog; x_run)
  clear KX1
  refine post1 D9 ?_
  clear D9
  intro aB hN tk6 D9
  repeat (first | with_reducible refine bq ?_ | with_reducible refine bq_go ?_ | with_reducible refine rv_go ?_ | with_reducible refine fin_done ?_ | with_reducible refine fin_again ?_ | with_reducible refine err_go ?_ | with_reducible refine rv_err ?_ | with_reducible refine wpAny_pure ?_ | with_reducible refine eq_in ?_ | with_reducible refine eq_go ?_ | ((with_reducible refine PySem.wpAny_enterFrame ?hl ?hd ?_); (case hl => exact (TW _ (lg_KK KX D9 (by first | exact chg0 | exact chg33 _))).nolimit); (case hd => exact Nat.le_of_ble_eq_true rfl)) | ((with_reducible refine' m_nsGetK KX D9 ?hc ?e ?_); (case hc => first | exact chg0 | exact chg33 _); (case e => k_is)) | ((with_reducible refine' m_nsSetNew D9 ?hs ?hr ?he ?_); (case hs => (repeat (first | exact Spl.here | apply Spl.there))); (case hr => kernel_rfl!); (case he => (intro hh kt; kernel_rfl!)); clear D9; intro hh kt hN D9; (try simp only [List.cons_append, List.nil_append] at D9)) | ((with_reducible refine' m_nsSetMod D9 ?hs ?hr ?he ?_); (case hs => (repeat (first | exact Spl.here | apply Spl.there))); (case hr => kernel_rfl!); (case he => (intro hh kt; kernel_rfl!)); clear D9; intro hN D9; (try simp only [List.cons_append, List.nil_append] at D9)) | ((with_reducible refine' m_nsDel D9 ?hs ?hh ?he ?_); (case hs => (repeat (first | exact Spl.here | apply Spl.there))); (case hh => kernel_rfl!); (case he => kernel_rfl!); clear D9; intro hN D9; (try simp only [List.cons_append, List.nil_append] at D9)) | ((with_reducible refine' m_nsGet (rv := none) D9 ?hm ?e ?_); (case hm => (repeat (first | exact List.Mem.head _ | apply List.Mem.tail))); (case e => kernel_rfl!)) | with_reducible refine wpAny_askSetting ?_ | with_reducible refine wpAny_point ?_ | with_reducible refine PyProof.Rows.lt_int ?_ | ((with_reducible refine callWith_F (q := 280) ?fnq ?_); (case fnq => exact ⟨_, _, _, _, lg_KK KX D9 chg0 _ _ (by k_is)⟩)) | ((with_reducible refine' m_nsL (rv := some (.ref ia)) hns ?ee ?_); (case ee => kernel_rfl!)) | ((with_reducible refine' m_nsL (rv := some (.ref ib)) hns ?ee ?_); (case ee => kernel_rfl!)) | ((first | guard_hyp gan | guard_hyp k); with_reducible refine te_in' ?_) | with_reducible refine te_go ?_ | ((first | guard_hyp gan | guard_hyp k); with_reducible refine aq_in ?_) | with_reducible refine aq_go ?_ | with_reducible refine ae_go ?_ | ((first | guard_hyp gan | guard_hyp k); with_reducible refine wpAny_of_eq (by assumption) ?_) | ((first | guard_hyp gan | guard_hyp k); with_reducible refine m_peek KX D9 chg0 (by assumption) ?_) | wp_delta | with_reducible refine wpAny_holding ?_ | with_reducible refine wpAny_standAt ?_ | with_reducible refine wpAny_rule ?_ | with_reducible refine wpAny_fresh' ?_ | ((first | guard_hyp gan | guard_hyp k); with_reducible refine te_in ?_) | ((with_reducible refine' wpAny_load (D9.keep _ _ ?ko nochg) ?_); (case ko => with_reducible first | exact gan | exact gbt | exact gsl | exact gst | exact gI | exact gL | exact gG | exact gE | exact gM | exact gN | exact k.cls | exact k.ns | exact k.dsc | exact k.ini | exact k.lt | exact k.cell | exact gi | exact gj)) | ((with_reducible refine' wpAny_loadPart (D9.keep _ _ ?ko nochg) ?_); (case ko => with_reducible first | exact gan | exact gbt | exact gsl | exact gst | exact gI | exact gL | exact gG | exact gE | exact gM | exact gN | exact k.cls | exact k.ns | exact k.dsc | exact k.ini | exact k.lt | exact k.cell | exact gi | exact gj)) | ((with_reducible refine' m_loadPart D9 ?hm ?_); (case hm => (repeat (first | exact List.Mem.head _ | apply List.Mem.tail)))) | ((with_reducible refine' m_load D9 ?hm ?_); (case hm => (repeat (first | exact List.Mem.head _ | apply List.Mem.tail)))) | ((with_reducible refine' m_alloc D9 ?ho ?_); (case ho => exact rfl); clear D9; intro a hN D9) | ((with_reducible refine' m_updPart D9 ?hp ?hf ?_); (case hp => (repeat (first | exact Put.here | apply Put.there))); (case hf => exact rfl); clear D9; intro hN D9; try dsimp only at D9) | ((with_reducible refine' m_upd D9 ?hp ?hf ?_); (case hp => (repeat (first | exact Put.here | apply Put.there))); (case hf => exact rfl); clear D9; intro hN D9; try dsimp only at D9) | ((with_reducible refine' m_loadC D9 ?hm ?_); (case hm => exact List.Mem.head _)) | ((with_reducible refine' m_loadK KX D9 ?hc ?e ?_); (case hc => first | exact chg0 | exact chg33 _); (case e => k_is)) | ((with_reducible refine' PySem.wpAny_ite_false ?zz ?_); (case zz => kernel_rfl!)) | ((with_reducible refine' PySem.wpAny_ite_true ?zz ?_); (case zz => kernel_rfl!)))
  refine ⟨_, rfl, ?_⟩
  dsimp only
  repeat (first | with_reducible refine bq ?_ | with_reducible refine bq_go ?_ | with_reducible refine rv_go ?_ | with_reducible refine fin_done ?_ | with_reducible refine fin_again ?_ | with_reducible refine err_go ?_ | with_reducible refine rv_err ?_ | with_reducible refine wpAny_pure ?_ | with_reducible refine eq_in ?_ | with_reducible refine eq_go ?_ | ((with_reducible refine PySem.wpAny_enterFrame ?hl ?hd ?_); (case hl => exact (TW _ (lg_KK KX D9 (by first | exact chg0 | exact chg33 _))).nolimit); (case hd => exact Nat.le_of_ble_eq_true rfl)) | ((with_reducible refine' m_nsGetK KX D9 ?hc ?e ?_); (case hc => first | exact chg0 | exact chg33 _); (case e => k_is)) | ((with_reducible refine' m_nsSetNew D9 ?hs ?hr ?he ?_); (case hs => (repeat (first | exact Spl.here | apply Spl.there))); (case hr => kernel_rfl!); (case he => (intro hh kt; kernel_rfl!)); clear D9; intro hh kt hN D9; (try simp only [List.cons_append, List.nil_append] at D9)) | ((with_reducible refine' m_nsSetMod D9 ?hs ?hr ?he ?_); (case hs => (repeat (first | exact Spl.here | apply Spl.there))); (case hr => kernel_rfl!); (case he => (intro hh kt; kernel_rfl!)); clear D9; intro hN D9; (try simp only [List.cons_append, List.nil_append] at D9)) | ((with_reducible refine' m_nsDel D9 ?hs ?hh ?he ?_); (case hs => (repeat (first | exact Spl.here | apply Spl.there))); (case hh => kernel_rfl!); (case he => kernel_rfl!); clear D9; intro hN D9; (try simp only [List.cons_append, List.nil_append] at D9)) | ((with_reducible refine' m_nsGet (rv := none) D9 ?hm ?e ?_); (case hm => (repeat (first | exact List.Mem.head _ | apply List.Mem.tail))); (case e => kernel_rfl!)) | with_reducible refine wpAny_askSetting ?_ | with_reducible refine wpAny_point ?_ | with_reducible refine PyProof.Rows.lt_int ?_ | ((with_reducible refine callWith_F (q := 280) ?fnq ?_); (case fnq => exact ⟨_, _, _, _, lg_KK KX D9 chg0 _ _ (by k_is)⟩)) | ((with_reducible refine' m_nsL (rv := some (.ref ia)) hns ?ee ?_); (case ee => kernel_rfl!)) | ((with_reducible refine' m_nsL (rv := some (.ref ib)) hns ?ee ?_); (case ee => kernel_rfl!)) | ((first | guard_hyp gan | guard_hyp k); with_reducible refine te_in' ?_) | with_reducible refine te_go ?_ | ((first | guard_hyp gan | guard_hyp k); with_reducible refine aq_in ?_) | with_reducible refine aq_go ?_ | with_reducible refine ae_go ?_ | ((first | guard_hyp gan | guard_hyp k); with_reducible refine wpAny_of_eq (by assumption) ?_) | ((first | guard_hyp gan | guard_hyp k); with_reducible refine m_peek KX D9 chg0 (by assumption) ?_) | wp_delta | with_reducible refine wpAny_holding ?_ | with_reducible refine wpAny_standAt ?_ | with_reducible refine wpAny_rule ?_ | with_reducible refine wpAny_fresh' ?_ | ((first | guard_hyp gan | guard_hyp k); with_reducible refine te_in ?_) | ((with_reducible refine' wpAny_load (D9.keep _ _ ?ko nochg) ?_); (case ko => with_reducible first | exact gan | exact gbt | exact gsl | exact gst | exact gI | exact gL | exact gG | exact gE | exact gM | exact gN | exact k.cls | exact k.ns | exact k.dsc | exact k.ini | exact k.lt | exact k.cell | exact gi | exact gj)) | ((with_reducible refine' wpAny_loadPart (D9.keep _ _ ?ko nochg) ?_); (case ko => with_reducible first | exact gan | exact gbt | exact gsl | exact gst | exact gI | exact gL | exact gG | exact gE | exact gM | exact gN | exact k.cls | exact k.ns | exact k.dsc | exact k.ini | exact k.lt | exact k.cell | exact gi | exact gj)) | ((with_reducible refine' m_loadPart D9 ?hm ?_); (case hm => (repeat (first | exact List.Mem.head _ | apply List.Mem.tail)))) | ((with_reducible refine' m_load D9 ?hm ?_); (case hm => (repeat (first | exact List.Mem.head _ | apply List.Mem.tail)))) | ((with_reducible refine' m_alloc D9 ?ho ?_); (case ho => exact rfl); clear D9; intro a hN D9) | ((with_reducible refine' m_updPart D9 ?hp ?hf ?_); (case hp => (repeat (first | exact Put.here | apply Put.there))); (case hf => exact rfl); clear D9; intro hN D9; try dsimp only at D9) | ((with_reducible refine' m_upd D9 ?hp ?hf ?_); (case hp => (repeat (first | exact Put.here | apply Put.there))); (case hf => exact rfl); clear D9; intro hN D9; try dsimp only at D9) | ((with_reducible refine' m_loadC D9 ?hm ?_); (case hm => exact List.Mem.head _)) | ((with_reducible refine' m_loadK KX D9 ?hc ?e ?_); (case hc => first | exact chg0 | exact chg33 _); (case e => k_is)) | ((with_reducible refine' PySem.wpAny_ite_false ?zz ?_); (case zz => kernel_rfl!)) | ((with_reducible refine' PySem.wpAny_ite_true ?zz ?_); (case zz => kernel_rfl!)))
  have KX1 := lg_KK KX D9 chg0
  have gB : hN.get? aB = some { cls := .type "builtin_function_or_method", data := .fields #[.builtin "object.__init_subclass__", .ref aK] } := (D9.nw _ (List.Mem.head _)).1
  have gK : hN.get? aK = some (clsK aK aNs bt tN (Str.ofString "cmp_to_key.<locals>.K") t2) := (D9.nw _ (List.Mem.tail _ (List.Mem.tail _ (List.Mem.tail _ (List.Mem.head _))))).1
  unfold clsK at gK
  refine wpAny_mono (Q := fun r s' => ∃ (h' : Heap) (tk' : Nat) (more : List (Addr × Obj)), s' = (⟨h', g, d, tk', os⟩ : Shared) ∧ Mem hN h' [] more) (E := fun _ _ => False) ?_ ?_ (fun _ _ h => h.elim)
  · (generalize PW = prog; x_run)
  clear KX1 gB gK
  refine postD D9 ?_
  clear D9
  intro _ hN tk7 D9
  repeat (first | with_reducible refine bq ?_ | with_reducible refine bq_go ?_ | with_reducible refine rv_go ?_ | with_reducible refine fin_done ?_ | with_reducible refine fin_again ?_ | with_reducible refine err_go ?_ | with_reducible refine rv_err ?_ | with_reducible refine wpAny_pure ?_ | with_reducible refine eq_in ?_ | with_reducible refine eq_go ?_ | ((with_reducible refine PySem.wpAny_enterFrame ?hl ?hd ?_); (case hl => exact (TW _ (lg_KK KX D9 (by first | exact chg0 | exact chg33 _))).nolimit); (case hd => exact Nat.le_of_ble_eq_true rfl)) | ((with_reducible refine' m_nsGetK KX D9 ?hc ?e ?_); (case hc => first | exact chg0 | exact chg33 _); (case e => k_is)) | ((with_reducible refine' m_nsSetNew D9 ?hs ?hr ?he ?_); (case hs => (repeat (first | exact Spl.here | apply Spl.there))); (case hr => kernel_rfl!); (case he => (intro hh kt; kernel_rfl!)); clear D9; intro hh kt hN D9; (try simp only [List.cons_append, List.nil_append] at D9)) | ((with_reducible refine' m_nsSetMod D9 ?hs ?hr ?he ?_); (case hs => (repeat (first | exact Spl.here | apply Spl.there))); (case hr => kernel_rfl!); (case he => (intro hh kt; kernel_rfl!)); clear D9; intro hN D9; (try simp only [List.cons_append, List.nil_append] at D9)) | ((with_reducible refine' m_nsDel D9 ?hs ?hh ?he ?_); (case hs => (repeat (first | exact Spl.here | apply Spl.there))); (case hh => kernel_rfl!); (case he => kernel_rfl!); clear D9; intro hN D9; (try simp only [List.cons_append, List.nil_append] at D9)) | ((with_reducible refine' m_nsGet (rv := none) D9 ?hm ?e ?_); (case hm => (repeat (first | exact List.Mem.head _ | apply List.Mem.tail))); (case e => kernel_rfl!)) | with_reducible refine wpAny_askSetting ?_ | with_reducible refine wpAny_point ?_ | with_reducible refine PyProof.Rows.lt_int ?_ | ((with_reducible refine callWith_F (q := 280) ?fnq ?_); (case fnq => exact ⟨_, _, _, _, lg_KK KX D9 chg0 _ _ (by k_is)⟩)) | ((with_reducible refine' m_nsL (rv := some (.ref ia)) hns ?ee ?_); (case ee => kernel_rfl!)) | ((with_reducible refine' m_nsL (rv := some (.ref ib)) hns ?ee ?_); (case ee => kernel_rfl!)) | ((first | guard_hyp gan | guard_hyp k); with_reducible refine te_in' ?_) | with_reducible refine te_go ?_ | ((first | guard_hyp gan | guard_hyp k); with_reducible refine aq_in ?_) | with_reducible refine aq_go ?_ | with_reducible refine ae_go ?_ | ((first | guard_hyp gan | guard_hyp k); with_reducible refine wpAny_of_eq (by assumption) ?_) | ((first | guard_hyp gan | guard_hyp k); with_reducible refine m_peek KX D9 chg0 (by assumption) ?_) | wp_delta | with_reducible refine wpAny_holding ?_ | with_reducible refine wpAny_standAt ?_ | with_reducible refine wpAny_rule ?_ | with_reducible refine wpAny_fresh' ?_ | ((first | guard_hyp gan | guard_hyp k); with_reducible refine te_in ?_) | ((with_reducible refine' wpAny_load (D9.keep _ _ ?ko nochg) ?_); (case ko => with_reducible first | exact gan | exact gbt | exact gsl | exact gst | exact gI | exact gL | exact gG | exact gE | exact gM | exact gN | exact k.cls | exact k.ns | exact k.dsc | exact k.ini | exact k.lt | exact k.cell | exact gi | exact gj)) | ((with_reducible refine' wpAny_loadPart (D9.keep _ _ ?ko nochg) ?_); (case ko => with_reducible first | exact gan | exact gbt | exact gsl | exact gst | exact gI | exact gL | exact gG | exact gE | exact gM | exact gN | exact k.cls | exact k.ns | exact k.dsc | exact k.ini | exact k.lt | exact k.cell | exact gi | exact gj)) | ((with_reducible refine' m_loadPart D9 ?hm ?_); (case hm => (repeat (first | exact List.Mem.head _ | apply List.Mem.tail)))) | ((with_reducible refine' m_load D9 ?hm ?_); (case hm => (repeat (first | exact List.Mem.head _ | apply List.Mem.tail)))) | ((with_reducible refine' m_alloc D9 ?ho ?_); (case ho => exact rfl); clear D9; intro a hN D9) | ((with_reducible refine' m_updPart D9 ?hp ?hf ?_); (case hp => (repeat (first | exact Put.here | apply Put.there))); (case hf => exact rfl); clear D9; intro hN D9; try dsimp only at D9) | ((with_reducible refine' m_upd D9 ?hp ?hf ?_); (case hp => (repeat (first | exact Put.here | apply Put.there))); (case hf => exact rfl); clear D9; intro hN D9; try dsimp only at D9) | ((with_reducible refine' m_loadC D9 ?hm ?_); (case hm => exact List.Mem.head _)) | ((with_reducible refine' m_loadK KX D9 ?hc ?e ?_); (case hc => first | exact chg0 | exact chg33 _); (case e => k_is)) | ((with_reducible refine' PySem.wpAny_ite_false ?zz ?_); (case zz => kernel_rfl!)) | ((with_reducible refine' PySem.wpAny_ite_true ?zz ?_); (case zz => kernel_rfl!)))
  have sb := sI.bind (.ref aK)
  repeat (first | with_reducible refine bq ?_ | with_reducible refine bq_go ?_ | with_reducible refine rv_go ?_ | with_reducible refine fin_done ?_ | with_reducible refine fin_again ?_ | with_reducible refine err_go ?_ | with_reducible refine rv_err ?_ | with_reducible refine wpAny_pure ?_ | with_reducible refine eq_in ?_ | with_reducible refine eq_go ?_ | ((with_reducible refine PySem.wpAny_enterFrame ?hl ?hd ?_); (case hl => exact (TW _ (lg_KK KX D9 (by first | exact chg0 | exact chg33 _))).nolimit); (case hd => exact Nat.le_of_ble_eq_true rfl)) | ((with_reducible refine' m_nsGetK KX D9 ?hc ?e ?_); (case hc => first | exact chg0 | exact chg33 _); (case e => k_is)) | ((with_reducible refine' m_nsSetNew D9 ?hs ?hr ?he ?_); (case hs => (repeat (first | exact Spl.here | apply Spl.there))); (case hr => kernel_rfl!); (case he => (intro hh kt; kernel_rfl!)); clear D9; intro hh kt hN D9; (try simp only [List.cons_append, List.nil_append] at D9)) | ((with_reducible refine' m_nsSetMod D9 ?hs ?hr ?he ?_); (case hs => (repeat (first | exact Spl.here | apply Spl.there))); (case hr => kernel_rfl!); (case he => (intro hh kt; kernel_rfl!)); clear D9; intro hN D9; (try simp only [List.cons_append, List.nil_append] at D9)) | ((with_reducible refine' m_nsDel D9 ?hs ?hh ?he ?_); (case hs => (repeat (first | exact Spl.here | apply Spl.there))); (case hh => kernel_rfl!); (case he => kernel_rfl!); clear D9; intro hN D9; (try simp only [List.cons_append, List.nil_append] at D9)) | ((with_reducible refine' m_nsGet (rv := none) D9 ?hm ?e ?_); (case hm => (repeat (first | exact List.Mem.head _ | apply List.Mem.tail))); (case e => kernel_rfl!)) | with_reducible refine wpAny_askSetting ?_ | with_reducible refine wpAny_point ?_ | with_reducible refine PyProof.Rows.lt_int ?_ | ((with_reducible refine callWith_F (q := 280) ?fnq ?_); (case fnq => exact ⟨_, _, _, _, lg_KK KX D9 chg0 _ _ (by k_is)⟩)) | ((with_reducible refine' m_nsL (rv := some (.ref ia)) hns ?ee ?_); (case ee => kernel_rfl!)) | ((with_reducible refine' m_nsL (rv := some (.ref ib)) hns ?ee ?_); (case ee => kernel_rfl!)) | ((first | guard_hyp gan | guard_hyp k); with_reducible refine te_in' ?_) | with_reducible refine te_go ?_ | ((first | guard_hyp gan | guard_hyp k); with_reducible refine aq_in ?_) | with_reducible refine aq_go ?_ | with_reducible refine ae_go ?_ | ((first | guard_hyp gan | guard_hyp k); with_reducible refine wpAny_of_eq (by assumption) ?_) | ((first | guard_hyp gan | guard_hyp k); with_reducible refine m_peek KX D9 chg0 (by assumption) ?_) | wp_delta | with_reducible refine wpAny_holding ?_ | with_reducible refine wpAny_standAt ?_ | with_reducible refine wpAny_rule ?_ | with_reducible refine wpAny_fresh' ?_ | ((first | guard_hyp gan | guard_hyp k); with_reducible refine te_in ?_) | ((with_reducible refine' wpAny_load (D9.keep _ _ ?ko nochg) ?_); (case ko => with_reducible first | exact gan | exact gbt | exact gsl | exact gst | exact gI | exact gL | exact gG | exact gE | exact gM | exact gN | exact k.cls | exact k.ns | exact k.dsc | exact k.ini | exact k.lt | exact k.cell | exact gi | exact gj)) | ((with_reducible refine' wpAny_loadPart (D9.keep _ _ ?ko nochg) ?_); (case ko => with_reducible first | exact gan | exact gbt | exact gsl | exact gst | exact gI | exact gL | exact gG | exact gE | exact gM | exact gN | exact k.cls | exact k.ns | exact k.dsc | exact k.ini | exact k.lt | exact k.cell | exact gi | exact gj)) | ((with_reducible refine' m_loadPart D9 ?hm ?_); (case hm => (repeat (first | exact List.Mem.head _ | apply List.Mem.tail)))) | ((with_reducible refine' m_load D9 ?hm ?_); (case hm => (repeat (first | exact List.Mem.head _ | apply List.Mem.tail)))) | ((with_reducible refine' m_alloc D9 ?ho ?_); (case ho => exact rfl); clear D9; intro a hN D9) | ((with_reducible refine' m_updPart D9 ?hp ?hf ?_); (case hp => (repeat (first | exact Put.here | apply Put.there))); (case hf => exact rfl); clear D9; intro hN D9; try dsimp only at D9) | ((with_reducible refine' m_upd D9 ?hp ?hf ?_); (case hp => (repeat (first | exact Put.here | apply Put.there))); (case hf => exact rfl); clear D9; intro hN D9; try dsimp only at D9) | ((with_reducible refine' m_loadC D9 ?hm ?_); (case hm => exact List.Mem.head _)) | ((with_reducible refine' m_loadK KX D9 ?hc ?e ?_); (case hc => first | exact chg0 | exact chg33 _); (case e => k_is)) | ((with_reducible refine' PySem.wpAny_ite_false ?zz ?_); (case zz => kernel_rfl!)) | ((with_reducible refine' PySem.wpAny_ite_true ?zz ?_); (case zz => kernel_rfl!)))
  have KX1 := lg_KK KX D9 chg0
  have gK : hN.get? aK = some (clsK aK aNs bt tN (Str.ofString "cmp_to_key.<locals>.K") t2) := (D9.nw _ (List.Mem.tail _ (List.Mem.tail _ (List.Mem.tail _ (List.Mem.head _))))).1
  unfold clsK at gK
  refine wpAny_mono (Q := fun r s' => ∃ (h' : Heap) (tk' : Nat) (more : List (Addr × Obj)), (r = Value.none ∧ s' = (⟨h', g, d, tk', os⟩ : Shared)) ∧ Mem hN h' [] more) (E := fun _ _ => False) ?_ ?_ (fun _ _ h => h.elim)
  · (generalize PW = prog; x_run)
  clear KX1 gK
  refine postE D9 ?_
  clear D9
  intro hN tk8 D9
  repeat (first | with_reducible refine bq ?_ | with_reducible refine bq_go ?_ | with_reducible refine rv_go ?_ | with_reducible refine fin_done ?_ | with_reducible refine fin_again ?_ | with_reducible refine err_go ?_ | with_reducible refine rv_err ?_ | with_reducible refine wpAny_pure ?_ | with_reducible refine eq_in ?_ | with_reducible refine eq_go ?_ | ((with_reducible refine PySem.wpAny_enterFrame ?hl ?hd ?_); (case hl => exact (TW _ (lg_KK KX D9 (by first | exact chg0 | exact chg33 _))).nolimit); (case hd => exact Nat.le_of_ble_eq_true rfl)) | ((with_reducible refine' m_nsGetK KX D9 ?hc ?e ?_); (case hc => first | exact chg0 | exact chg33 _); (case e => k_is)) | ((with_reducible refine' m_nsSetNew D9 ?hs ?hr ?he ?_); (case hs => (repeat (first | exact Spl.here | apply Spl.there))); (case hr => kernel_rfl!); (case he => (intro hh kt; kernel_rfl!)); clear D9; intro hh kt hN D9; (try simp only [List.cons_append, List.nil_append] at D9)) | ((with_reducible refine' m_nsSetMod D9 ?hs ?hr ?he ?_); (case hs => (repeat (first | exact Spl.here | apply Spl.there))); (case hr => kernel_rfl!); (case he => (intro hh kt; kernel_rfl!)); clear D9; intro hN D9; (try simp only [List.cons_append, List.nil_append] at D9)) | ((with_reducible refine' m_nsDel D9 ?hs ?hh ?he ?_); (case hs => (repeat (first | exact Spl.here | apply Spl.there))); (case hh => kernel_rfl!); (case he => kernel_rfl!); clear D9; intro hN D9; (try simp only [List.cons_append, List.nil_append] at D9)) | ((with_reducible refine' m_nsGet (rv := none) D9 ?hm ?e ?_); (case hm => (repeat (first | exact List.Mem.head _ | apply List.Mem.tail))); (case e => kernel_rfl!)) | with_reducible refine wpAny_askSetting ?_ | with_reducible refine wpAny_point ?_ | with_reducible refine PyProof.Rows.lt_int ?_ | ((with_reducible refine callWith_F (q := 280) ?fnq ?_); (case fnq => exact ⟨_, _, _, _, lg_KK KX D9 chg0 _ _ (by k_is)⟩)) | ((with_reducible refine' m_nsL (rv := some (.ref ia)) hns ?ee ?_); (case ee => kernel_rfl!)) | ((with_reducible refine' m_nsL (rv := some (.ref ib)) hns ?ee ?_); (case ee => kernel_rfl!)) | ((first | guard_hyp gan | guard_hyp k); with_reducible refine te_in' ?_) | with_reducible refine te_go ?_ | ((first | guard_hyp gan | guard_hyp k); with_reducible refine aq_in ?_) | with_reducible refine aq_go ?_ | with_reducible refine ae_go ?_ | ((first | guard_hyp gan | guard_hyp k); with_reducible refine wpAny_of_eq (by assumption) ?_) | ((first | guard_hyp gan | guard_hyp k); with_reducible refine m_peek KX D9 chg0 (by assumption) ?_) | wp_delta | with_reducible refine wpAny_holding ?_ | with_reducible refine wpAny_standAt ?_ | with_reducible refine wpAny_rule ?_ | with_reducible refine wpAny_fresh' ?_ | ((first | guard_hyp gan | guard_hyp k); with_reducible refine te_in ?_) | ((with_reducible refine' wpAny_load (D9.keep _ _ ?ko nochg) ?_); (case ko => with_reducible first | exact gan | exact gbt | exact gsl | exact gst | exact gI | exact gL | exact gG | exact gE | exact gM | exact gN | exact k.cls | exact k.ns | exact k.dsc | exact k.ini | exact k.lt | exact k.cell | exact gi | exact gj)) | ((with_reducible refine' wpAny_loadPart (D9.keep _ _ ?ko nochg) ?_); (case ko => with_reducible first | exact gan | exact gbt | exact gsl | exact gst | exact gI | exact gL | exact gG | exact gE | exact gM | exact gN | exact k.cls | exact k.ns | exact k.dsc | exact k.ini | exact k.lt | exact k.cell | exact gi | exact gj)) | ((with_reducible refine' m_loadPart D9 ?hm ?_); (case hm => (repeat (first | exact List.Mem.head _ | apply List.Mem.tail)))) | ((with_reducible refine' m_load D9 ?hm ?_); (case hm => (repeat (first | exact List.Mem.head _ | apply List.Mem.tail)))) | ((with_reducible refine' m_alloc D9 ?ho ?_); (case ho => exact rfl); clear D9; intro a hN D9) | ((with_reducible refine' m_updPart D9 ?hp ?hf ?_); (case hp => (repeat (first | exact Put.here | apply Put.there))); (case hf => exact rfl); clear D9; intro hN D9; try dsimp only at D9) | ((with_reducible refine' m_upd D9 ?hp ?hf ?_); (case hp => (repeat (first | exact Put.here | apply Put.there))); (case hf => exact rfl); clear D9; intro hN D9; try dsimp only at D9) | ((with_reducible refine' m_loadC D9 ?hm ?_); (case hm => exact List.Mem.head _)) | ((with_reducible refine' m_loadK KX D9 ?hc ?e ?_); (case hc => first | exact chg0 | exact chg33 _); (case e => k_is)) | ((with_reducible refine' PySem.wpAny_ite_false ?zz ?_); (case zz => kernel_rfl!)) | ((with_reducible refine' PySem.wpAny_ite_true ?zz ?_); (case zz => kernel_rfl!)))
  exact hQ _ _ _ _ _ _ _ _ _ _ _ (Lg.dropl (news' := [_, _]) D9)
theorem key_c {w : World} {p : Program} {loose : List Str} {mg mb : Str → Option Value} {A : Around} {Q E : Value → Shared → Prop} {h : Heap} {g : Array GenState} {d : Drawn} {t : Nat} {os : OsState} (TW : Tops w p loose mg mb) (KX : (KK w.params).In h) (K33 : h.get? 33 = some (tableObj #[])) (RA : Room 4 A)
    (hQ : ∀ aK x h' tk' ps (nk : List (Addr × Obj)), UpBut 33 h h' → h'.get? 33 = some (tabObj ps) → (∀ q ∈ nk, h'.get? q.1 = some q.2 ∧ h.get? q.1 = none) → (∀ h'', (∀ q ∈ nk, h''.get? q.1 = some q.2) → KOk h'' aK x) → Q (.ref aK) ⟨h', g, d, tk', os⟩) :
    wpAny (model PW w) A (call (.ref 38) [.ref 280]) Q E ⟨h, g, d, t, os⟩ := by
  refine weaken4 RA ?_
  refine wpAny_mono (E := fun _ _ => False) (Q := Q) ?_ (fun _ _ h => h) (fun _ _ h => h.elim)
  have D9 := Lg.start h
  have hMt : ((Manifest.find? "object").elim "type" fun x => x.metatype) = "type" := by kernel_rfl
  have hTT : isSubtype (.type "type") (.type "type") = pure true := by rw [isSubtype_type]; kernel_rfl
  refine call_q (tree_q ?_)
  show wpAny _ _ (callAny (.ref 38) _) _ _ _
  unfold callAny
  repeat (first | with_reducible refine bq ?_ | with_reducible refine bq_go ?_ | with_reducible refine rv_go ?_ | with_reducible refine fin_done ?_ | with_reducible refine fin_again ?_ | with_reducible refine err_go ?_ | with_reducible refine rv_err ?_ | with_reducible refine wpAny_pure ?_ | with_reducible refine eq_in ?_ | with_reducible refine eq_go ?_ | ((with_reducible refine PySem.wpAny_enterFrame ?hl ?hd ?_); (case hl => exact (TW _ (lg_KK KX D9 (by first | exact chg0 | exact chg33 _))).nolimit); (case hd => exact Nat.le_of_ble_eq_true rfl)) | ((with_reducible refine' m_nsGetK KX D9 ?hc ?e ?_); (case hc => first | exact chg0 | exact chg33 _); (case e => k_is)) | ((with_reducible refine' m_nsSetNew D9 ?hs ?hr ?he ?_); (case hs => (repeat (first | exact Spl.here | apply Spl.there))); (case hr => kernel_rfl!); (case he => (intro hh kt; kernel_rfl!)); clear D9; intro hh kt hN D9; (try simp only [List.cons_append, List.nil_append] at D9)) | ((with_reducible refine' m_nsSetMod D9 ?hs ?hr ?he ?_); (case hs => (repeat (first | exact Spl.here | apply Spl.there))); (case hr => kernel_rfl!); (case he => (intro hh kt; kernel_rfl!)); clear D9; intro hN D9; (try simp only [List.cons_append, List.nil_append] at D9)) | ((with_reducible refine' m_nsDel D9 ?hs ?hh ?he ?_); (case hs => (repeat (first | exact Spl.here | apply Spl.there))); (case hh => kernel_rfl!); (case he => kernel_rfl!); clear D9; intro hN D9; (try simp only [List.cons_append, List.nil_append] at D9)) | ((with_reducible refine' m_nsGet (rv := none) D9 ?hm ?e ?_); (case hm => (repeat (first | exact List.Mem.head _ | apply List.Mem.tail))); (case e => kernel_rfl!)) | with_reducible refine wpAny_askSetting ?_ | with_reducible refine wpAny_point ?_ | with_reducible refine PyProof.Rows.lt_int ?_ | ((with_reducible refine callWith_F (q := 280) ?fnq ?_); (case fnq => exact ⟨_, _, _, _, lg_KK KX D9 chg0 _ _ (by k_is)⟩)) | ((with_reducible refine' m_nsL (rv := some (.ref ia)) hns ?ee ?_); (case ee => kernel_rfl!)) | ((with_reducible refine' m_nsL (rv := some (.ref ib)) hns ?ee ?_); (case ee => kernel_rfl!)) | ((first | guard_hyp gan | guard_hyp k); with_reducible refine te_in' ?_) | with_reducible refine te_go ?_ | ((first | guard_hyp gan | guard_hyp k); with_reducible refine aq_in ?_) | with_reducible refine aq_go ?_ | with_reducible refine ae_go ?_ | ((first | guard_hyp gan | guard_hyp k); with_reducible refine wpAny_of_eq (by assumption) ?_) | ((first | guard_hyp gan | guard_hyp k); with_reducible refine m_peek KX D9 chg0 (by assumption) ?_) | wp_delta | with_reducible refine wpAny_holding ?_ | with_reducible refine wpAny_standAt ?_ | with_reducible refine wpAny_rule ?_ | with_reducible refine wpAny_fresh' ?_ | ((first | guard_hyp gan | guard_hyp k); with_reducible refine te_in ?_) | ((with_reducible refine' wpAny_load (D9.keep _ _ ?ko nochg) ?_); (case ko => with_reducible first | exact gan | exact gbt | exact gsl | exact gst | exact gI | exact gL | exact gG | exact gE | exact gM | exact gN | exact k.cls | exact k.ns | exact k.dsc | exact k.ini | exact k.lt | exact k.cell | exact gi | exact gj)) | ((with_reducible refine' wpAny_loadPart (D9.keep _ _ ?ko nochg) ?_); (case ko => with_reducible first | exact gan | exact gbt | exact gsl | exact gst | exact gI | exact gL | exact gG | exact gE | exact gM | exact gN | exact k.cls | exact k.ns | exact k.dsc | exact k.ini | exact k.lt | exact k.cell | exact gi | exact gj)) | ((with_reducible refine' m_loadPart D9 ?hm ?_); (case hm => (repeat (first | exact List.Mem.head _ | apply List.Mem.tail)))) | ((with_reducible refine' m_load D9 ?hm ?_); (case hm => (repeat (first | exact List.Mem.head _ | apply List.Mem.tail)))) | ((with_reducible refine' m_alloc D9 ?ho ?_); (case ho => exact rfl); clear D9; intro a hN D9) | ((with_reducible refine' m_updPart D9 ?hp ?hf ?_); (case hp => (repeat (first | exact Put.here | apply Put.there))); (case hf => exact rfl); clear D9; intro hN D9; try dsimp only at D9) | ((with_reducible refine' m_upd D9 ?hp ?hf ?_); (case hp => (repeat (first | exact Put.here | apply Put.there))); (case hf => exact rfl); clear D9; intro hN D9; try dsimp only at D9) | ((with_reducible refine' m_loadC D9 ?hm ?_); (case hm => exact List.Mem.head _)) | ((with_reducible refine' m_loadK KX D9 ?hc ?e ?_); (case hc => first | exact chg0 | exact chg33 _); (case e => k_is)) | ((with_reducible refine' PySem.wpAny_ite_false ?zz ?_); (case zz => kernel_rfl!)) | ((with_reducible refine' PySem.wpAny_ite_true ?zz ?_); (case zz => kernel_rfl!)))
  obtain ⟨aM, rfl⟩ : ∃ x, x = a := ⟨a, rfl⟩
  obtain ⟨fr0, rfl⟩ : ∃ x, x = a := ⟨a, rfl⟩
  dsimp only
  refine ⟨rfl, codeAny_func ?_⟩
  refine exec_hold ?_
  repeat (first | with_reducible refine bq ?_ | with_reducible refine bq_go ?_ | with_reducible refine rv_go ?_ | with_reducible refine fin_done ?_ | with_reducible refine fin_again ?_ | with_reducible refine err_go ?_ | with_reducible refine rv_err ?_ | with_reducible refine wpAny_pure ?_ | with_reducible refine eq_in ?_ | with_reducible refine eq_go ?_ | ((with_reducible refine PySem.wpAny_enterFrame ?hl ?hd ?_); (case hl => exact (TW _ (lg_KK KX D9 (by first | exact chg0 | exact chg33 _))).nolimit); (case hd => exact Nat.le_of_ble_eq_true rfl)) | ((with_reducible refine' m_nsGetK KX D9 ?hc ?e ?_); (case hc => first | exact chg0 | exact chg33 _); (case e => k_is)) | ((with_reducible refine' m_nsSetNew D9 ?hs ?hr ?he ?_); (case hs => (repeat (first | exact Spl.here | apply Spl.there))); (case hr => kernel_rfl!); (case he => (intro hh kt; kernel_rfl!)); clear D9; intro hh kt hN D9; (try simp only [List.cons_append, List.nil_append] at D9)) | ((with_reducible refine' m_nsSetMod D9 ?hs ?hr ?he ?_); (case hs => (repeat (first | exact Spl.here | apply Spl.there))); (case hr => kernel_rfl!); (case he => (intro hh kt; kernel_rfl!)); clear D9; intro hN D9; (try simp only [List.cons_append, List.nil_append] at D9)) | ((with_reducible refine' m_nsDel D9 ?hs ?hh ?he ?_); (case hs => (repeat (first | exact Spl.here | apply Spl.there))); (case hh => kernel_rfl!); (case he => kernel_rfl!); clear D9; intro hN D9; (try simp only [List.cons_append, List.nil_append] at D9)) | ((with_reducible refine' m_nsGet (rv := none) D9 ?hm ?e ?_); (case hm => (repeat (first | exact List.Mem.head _ | apply List.Mem.tail))); (case e => kernel_rfl!)) | with_reducible refine wpAny_askSetting ?_ | with_reducible refine wpAny_point ?_ | with_reducible refine PyProof.Rows.lt_int ?_ | ((with_reducible refine callWith_F (q := 280) ?fnq ?_); (case fnq => exact ⟨_, _, _, _, lg_KK KX D9 chg0 _ _ (by k_is)⟩)) | ((with_reducible refine' m_nsL (rv := some (.ref ia)) hns ?ee ?_); (case ee => kernel_rfl!)) | ((with_reducible refine' m_nsL (rv := some (.ref ib)) hns ?ee ?_); (case ee => kernel_rfl!)) | ((first | guard_hyp gan | guard_hyp k); with_reducible refine te_in' ?_) | with_reducible refine te_go ?_ | ((first | guard_hyp gan | guard_hyp k); with_reducible refine aq_in ?_) | with_reducible refine aq_go ?_ | with_reducible refine ae_go ?_ | ((first | guard_hyp gan | guard_hyp k); with_reducible refine wpAny_of_eq (by assumption) ?_) | ((first | guard_hyp gan | guard_hyp k); with_reducible refine m_peek KX D9 chg0 (by assumption) ?_) | wp_delta | with_reducible refine wpAny_holding ?_ | with_reducible refine wpAny_standAt ?_ | with_reducible refine wpAny_rule ?_ | with_reducible refine wpAny_fresh' ?_ | ((first | guard_hyp gan | guard_hyp k); with_reducible refine te_in ?_) | ((with_reducible refine' wpAny_load (D9.keep _ _ ?ko nochg) ?_); (case ko => with_reducible first | exact gan | exact gbt | exact gsl | exact gst | exact gI | exact gL | exact gG | exact gE | exact gM | exact gN | exact k.cls | exact k.ns | exact k.dsc | exact k.ini | exact k.lt | exact k.cell | exact gi | exact gj)) | ((with_reducible refine' wpAny_loadPart (D9.keep _ _ ?ko nochg) ?_); (case ko => with_reducible first | exact gan | exact gbt | exact gsl | exact gst | exact gI | exact gL | exact gG | exact gE | exact gM | exact gN | exact k.cls | exact k.ns | exact k.dsc | exact k.ini | exact k.lt | exact k.cell | exact gi | exact gj)) | ((with_reducible refine' m_loadPart D9 ?hm ?_); (case hm => (repeat (first | exact List.Mem.head _ | apply List.Mem.tail)))) | ((with_reducible refine' m_load D9 ?hm ?_); (case hm => (repeat (first | exact List.Mem.head _ | apply List.Mem.tail)))) | ((with_reducible refine' m_alloc D9 ?ho ?_); (case ho => exact rfl); clear D9; intro a hN D9) | ((with_reducible refine' m_updPart D9 ?hp ?hf ?_); (case hp => (repeat (first | exact Put.here | apply Put.there))); (case hf => exact rfl); clear D9; intro hN D9; try dsimp only at D9) | ((with_reducible refine' m_upd D9 ?hp ?hf ?_); (case hp => (repeat (first | exact Put.here | apply Put.there))); (case hf => exact rfl); clear D9; intro hN D9; try dsimp only at D9) | ((with_reducible refine' m_loadC D9 ?hm ?_); (case hm => exact List.Mem.head _)) | ((with_reducible refine' m_loadK KX D9 ?hc ?e ?_); (case hc => first | exact chg0 | exact chg33 _); (case e => k_is)) | ((with_reducible refine' PySem.wpAny_ite_false ?zz ?_); (case zz => kernel_rfl!)) | ((with_reducible refine' PySem.wpAny_ite_true ?zz ?_); (case zz => kernel_rfl!)))
  rw [hMt]
  refine wpAny_of_eq hTT ?_
  repeat (first | with_reducible refine bq ?_ | with_reducible refine bq_go ?_ | with_reducible refine rv_go ?_ | with_reducible refine fin_done ?_ | with_reducible refine fin_again ?_ | with_reducible refine err_go ?_ | with_reducible refine rv_err ?_ | with_reducible refine wpAny_pure ?_ | with_reducible refine eq_in ?_ | with_reducible refine eq_go ?_ | ((with_reducible refine PySem.wpAny_enterFrame ?hl ?hd ?_); (case hl => exact (TW _ (lg_KK KX D9 (by first | exact chg0 | exact chg33 _))).nolimit); (case hd => exact Nat.le_of_ble_eq_true rfl)) | ((with_reducible refine' m_nsGetK KX D9 ?hc ?e ?_); (case hc => first | exact chg0 | exact chg33 _); (case e => k_is)) | ((with_reducible refine' m_nsSetNew D9 ?hs ?hr ?he ?_); (case hs => (repeat (first | exact Spl.here | apply Spl.there))); (case hr => kernel_rfl!); (case he => (intro hh kt; kernel_rfl!)); clear D9; intro hh kt hN D9; (try simp only [List.cons_append, List.nil_append] at D9)) | ((with_reducible refine' m_nsSetMod D9 ?hs ?hr ?he ?_); (case hs => (repeat (first | exact Spl.here | apply Spl.there))); (case hr => kernel_rfl!); (case he => (intro hh kt; kernel_rfl!)); clear D9; intro hN D9; (try simp only [List.cons_append, List.nil_append] at D9)) | ((with_reducible refine' m_nsDel D9 ?hs ?hh ?he ?_); (case hs => (repeat (first | exact Spl.here | apply Spl.there))); (case hh => kernel_rfl!); (case he => kernel_rfl!); clear D9; intro hN D9; (try simp only [List.cons_append, List.nil_append] at D9)) | ((with_reducible refine' m_nsGet (rv := none) D9 ?hm ?e ?_); (case hm => (repeat (first | exact List.Mem.head _ | apply List.Mem.tail))); (case e => kernel_rfl!)) | with_reducible refine wpAny_askSetting ?_ | with_reducible refine wpAny_point ?_ | with_reducible refine PyProof.Rows.lt_int ?_ | ((with_reducible refine callWith_F (q := 280) ?fnq ?_); (case fnq => exact ⟨_, _, _, _, lg_KK KX D9 chg0 _ _ (by k_is)⟩)) | ((with_reducible refine' m_nsL (rv := some (.ref ia)) hns ?ee ?_); (case ee => kernel_rfl!)) | ((with_reducible refine' m_nsL (rv := some (.ref ib)) hns ?ee ?_); (case ee => kernel_rfl!)) | ((first | guard_hyp gan | guard_hyp k); with_reducible refine te_in' ?_) | with_reducible refine te_go ?_ | ((first | guard_hyp gan | guard_hyp k); with_reducible refine aq_in ?_) | with_reducible refine aq_go ?_ | with_reducible refine ae_go ?_ | ((first | guard_hyp gan | guard_hyp k); with_reducible refine wpAny_of_eq (by assumption) ?_) | ((first | guard_hyp gan | guard_hyp k); with_reducible refine m_peek KX D9 chg0 (by assumption) ?_) | wp_delta | with_reducible refine wpAny_holding ?_ | with_reducible refine wpAny_standAt ?_ | with_reducible refine wpAny_rule ?_ | with_reducible refine wpAny_fresh' ?_ | ((first | guard_hyp gan | guard_hyp k); with_reducible refine te_in ?_) | ((with_reducible refine' wpAny_load (D9.keep _ _ ?ko nochg) ?_); (case ko => with_reducible first | exact gan | exact gbt | exact gsl | exact gst | exact gI | exact gL | exact gG | exact gE | exact gM | exact gN | exact k.cls | exact k.ns | exact k.dsc | exact k.ini | exact k.lt | exact k.cell | exact gi | exact gj)) | ((with_reducible refine' wpAny_loadPart (D9.keep _ _ ?ko nochg) ?_); (case ko => with_reducible first | exact gan | exact gbt | exact gsl | exact gst | exact gI | exact gL | exact gG | exact gE | exact gM | exact gN | exact k.cls | exact k.ns | exact k.dsc | exact k.ini | exact k.lt | exact k.cell | exact gi | exact gj)) | ((with_reducible refine' m_loadPart D9 ?hm ?_); (case hm => (repeat (first | exact List.Mem.head _ | apply List.Mem.tail)))) | ((with_reducible refine' m_load D9 ?hm ?_); (case hm => (repeat (first | exact List.Mem.head _ | apply List.Mem.tail)))) | ((with_reducible refine' m_alloc D9 ?ho ?_); (case ho => exact rfl); clear D9; intro a hN D9) | ((with_reducible refine' m_updPart D9 ?hp ?hf ?_); (case hp => (repeat (first | exact Put.here | apply Put.there))); (case hf => exact rfl); clear D9; intro hN D9; try dsimp only at D9) | ((with_reducible refine' m_upd D9 ?hp ?hf ?_); (case hp => (repeat (first | exact Put.here | apply Put.there))); (case hf => exact rfl); clear D9; intro hN D9; try dsimp only at D9) | ((with_reducible refine' m_loadC D9 ?hm ?_); (case hm => exact List.Mem.head _)) | ((with_reducible refine' m_loadK KX D9 ?hc ?e ?_); (case hc => first | exact chg0 | exact chg33 _); (case e => k_is)) | ((with_reducible refine' PySem.wpAny_ite_false ?zz ?_); (case zz => kernel_rfl!)) | ((with_reducible refine' PySem.wpAny_ite_true ?zz ?_); (case zz => kernel_rfl!)))
  rename Addr => bt
  have KX1 := lg_KK KX D9 chg0
  refine wpAny_mono (Q := fun r s' => ∃ (a : Addr) (h' : Heap) (tk' : Nat), r = Except.ok (Value.ref a) ∧ s' = (⟨h', g, d, tk', os⟩ : Shared) ∧ Mem hN h' [] [(a, { cls := .type "builtin_function_or_method", data := .fields #[.builtin "type.__prepare__", .type "type"] })]) (E := fun _ _ => False) ?_ ?_ (fun _ _ h => h.elim)
  · (generalize PW = prog; x_run)
  clear KX1
  refine post1 D9 ?_
  clear D9
  intro ap h2 tk2 D9
  repeat (first | with_reducible refine bq ?_ | with_reducible refine bq_go ?_ | with_reducible refine rv_go ?_ | with_reducible refine fin_done ?_ | with_reducible refine fin_again ?_ | with_reducible refine err_go ?_ | with_reducible refine rv_err ?_ | with_reducible refine wpAny_pure ?_ | with_reducible refine eq_in ?_ | with_reducible refine eq_go ?_ | ((with_reducible refine PySem.wpAny_enterFrame ?hl ?hd ?_); (case hl => exact (TW _ (lg_KK KX D9 (by first | exact chg0 | exact chg33 _))).nolimit); (case hd => exact Nat.le_of_ble_eq_true rfl)) | ((with_reducible refine' m_nsGetK KX D9 ?hc ?e ?_); (case hc => first | exact chg0 | exact chg33 _); (case e => k_is)) | ((with_reducible refine' m_nsSetNew D9 ?hs ?hr ?he ?_); (case hs => (repeat (first | exact Spl.here | apply Spl.there))); (case hr => kernel_rfl!); (case he => (intro hh kt; kernel_rfl!)); clear D9; intro hh kt hN D9; (try simp only [List.cons_append, List.nil_append] at D9)) | ((with_reducible refine' m_nsSetMod D9 ?hs ?hr ?he ?_); (case hs => (repeat (first | exact Spl.here | apply Spl.there))); (case hr => kernel_rfl!); (case he => (intro hh kt; kernel_rfl!)); clear D9; intro hN D9; (try simp only [List.cons_append, List.nil_append] at D9)) | ((with_reducible refine' m_nsDel D9 ?hs ?hh ?he ?_); (case hs => (repeat (first | exact Spl.here | apply Spl.there))); (case hh => kernel_rfl!); (case he => kernel_rfl!); clear D9; intro hN D9; (try simp only [List.cons_append, List.nil_append] at D9)) | ((with_reducible refine' m_nsGet (rv := none) D9 ?hm ?e ?_); (case hm => (repeat (first | exact List.Mem.head _ | apply List.Mem.tail))); (case e => kernel_rfl!)) | with_reducible refine wpAny_askSetting ?_ | with_reducible refine wpAny_point ?_ | with_reducible refine PyProof.Rows.lt_int ?_ | ((with_reducible refine callWith_F (q := 280) ?fnq ?_); (case fnq => exact ⟨_, _, _, _, lg_KK KX D9 chg0 _ _ (by k_is)⟩)) | ((with_reducible refine' m_nsL (rv := some (.ref ia)) hns ?ee ?_); (case ee => kernel_rfl!)) | ((with_reducible refine' m_nsL (rv := some (.ref ib)) hns ?ee ?_); (case ee => kernel_rfl!)) | ((first | guard_hyp gan | guard_hyp k); with_reducible refine te_in' ?_) | with_reducible refine te_go ?_ | ((first | guard_hyp gan | guard_hyp k); with_reducible refine aq_in ?_) | with_reducible refine aq_go ?_ | with_reducible refine ae_go ?_ | ((first | guard_hyp gan | guard_hyp k); with_reducible refine wpAny_of_eq (by assumption) ?_) | ((first | guard_hyp gan | guard_hyp k); with_reducible refine m_peek KX D9 chg0 (by assumption) ?_) | wp_delta | with_reducible refine wpAny_holding ?_ | with_reducible refine wpAny_standAt ?_ | with_reducible refine wpAny_rule ?_ | with_reducible refine wpAny_fresh' ?_ | ((first | guard_hyp gan | guard_hyp k); with_reducible refine te_in ?_) | ((with_reducible refine' wpAny_load (D9.keep _ _ ?ko nochg) ?_); (case ko => with_reducible first | exact gan | exact gbt | exact gsl | exact gst | exact gI | exact gL | exact gG | exact gE | exact gM | exact gN | exact k.cls | exact k.ns | exact k.dsc | exact k.ini | exact k.lt | exact k.cell | exact gi | exact gj)) | ((with_reducible refine' wpAny_loadPart (D9.keep _ _ ?ko nochg) ?_); (case ko => with_reducible first | exact gan | exact gbt | exact gsl | exact gst | exact gI | exact gL | exact gG | exact gE | exact gM | exact gN | exact k.cls | exact k.ns | exact k.dsc | exact k.ini | exact k.lt | exact k.cell | exact gi | exact gj)) | ((with_reducible refine' m_loadPart D9 ?hm ?_); (case hm => (repeat (first | exact List.Mem.head _ | apply List.Mem.tail)))) | ((with_reducible refine' m_load D9 ?hm ?_); (case hm => (repeat (first | exact List.Mem.head _ | apply List.Mem.tail)))) | ((with_reducible refine' m_alloc D9 ?ho ?_); (case ho => exact rfl); clear D9; intro a hN D9) | ((with_reducible refine' m_updPart D9 ?hp ?hf ?_); (case hp => (repeat (first | exact Put.here | apply Put.there))); (case hf => exact rfl); clear D9; intro hN D9; try dsimp only at D9) | ((with_reducible refine' m_upd D9 ?hp ?hf ?_); (case hp => (repeat (first | exact Put.here | apply Put.there))); (case hf => exact rfl); clear D9; intro hN D9; try dsimp only at D9) | ((with_reducible refine' m_loadC D9 ?hm ?_); (case hm => exact List.Mem.head _)) | ((with_reducible refine' m_loadK KX D9 ?hc ?e ?_); (case hc => first | exact chg0 | exact chg33 _); (case e => k_is)) | ((with_reducible refine' PySem.wpAny_ite_false ?zz ?_); (case zz => kernel_rfl!)) | ((with_reducible refine' PySem.wpAny_ite_true ?zz ?_); (case zz => kernel_rfl!)))
  have KX1 := lg_KK KX D9 chg0
  have ga : h2.get? ap = some _ := (D9.nw _ (List.Mem.head _)).1
  dsimp only at ga
  refine wpAny_mono (Q := fun r s' => ∃ (a : Addr) (h' : Heap) (tk' : Nat), r = Value.ref a ∧ s' = (⟨h', g, d, tk', os⟩ : Shared) ∧ Mem h2 h' [] [(a, { cls := .type "dict", data := .dict (List.toArray []) })]) (E := fun _ _ => False) ?_ ?_ (fun _ _ h => h.elim)
  · (generalize PW = prog; x_run)
  clear KX1 ga
  refine post1 D9 ?_
  clear D9
  intro an h3 tk3 D9
  repeat (first | with_reducible refine bq ?_ | with_reducible refine bq_go ?_ | with_reducible refine rv_go ?_ | with_reducible refine fin_done ?_ | with_reducible refine fin_again ?_ | with_reducible refine err_go ?_ | with_reducible refine rv_err ?_ | with_reducible refine wpAny_pure ?_ | with_reducible refine eq_in ?_ | with_reducible refine eq_go ?_ | ((with_reducible refine PySem.wpAny_enterFrame ?hl ?hd ?_); (case hl => exact (TW _ (lg_KK KX D9 (by first | exact chg0 | exact chg33 _))).nolimit); (case hd => exact Nat.le_of_ble_eq_true rfl)) | ((with_reducible refine' m_nsGetK KX D9 ?hc ?e ?_); (case hc => first | exact chg0 | exact chg33 _); (case e => k_is)) | ((with_reducible refine' m_nsSetNew D9 ?hs ?hr ?he ?_); (case hs => (repeat (first | exact Spl.here | apply Spl.there))); (case hr => kernel_rfl!); (case he => (intro hh kt; kernel_rfl!)); clear D9; intro hh kt hN D9; (try simp only [List.cons_append, List.nil_append] at D9)) | ((with_reducible refine' m_nsSetMod D9 ?hs ?hr ?he ?_); (case hs => (repeat (first | exact Spl.here | apply Spl.there))); (case hr => kernel_rfl!); (case he => (intro hh kt; kernel_rfl!)); clear D9; intro hN D9; (try simp only [List.cons_append, List.nil_append] at D9)) | ((with_reducible refine' m_nsDel D9 ?hs ?hh ?he ?_); (case hs => (repeat (first | exact Spl.here | apply Spl.there))); (case hh => kernel_rfl!); (case he => kernel_rfl!); clear D9; intro hN D9; (try simp only [List.cons_append, List.nil_append] at D9)) | ((with_reducible refine' m_nsGet (rv := none) D9 ?hm ?e ?_); (case hm => (repeat (first | exact List.Mem.head _ | apply List.Mem.tail))); (case e => kernel_rfl!)) | with_reducible refine wpAny_askSetting ?_ | with_reducible refine wpAny_point ?_ | with_reducible refine PyProof.Rows.lt_int ?_ | ((with_reducible refine callWith_F (q := 280) ?fnq ?_); (case fnq => exact ⟨_, _, _, _, lg_KK KX D9 chg0 _ _ (by k_is)⟩)) | ((with_reducible refine' m_nsL (rv := some (.ref ia)) hns ?ee ?_); (case ee => kernel_rfl!)) | ((with_reducible refine' m_nsL (rv := some (.ref ib)) hns ?ee ?_); (case ee => kernel_rfl!)) | ((first | guard_hyp gan | guard_hyp k); with_reducible refine te_in' ?_) | with_reducible refine te_go ?_ | ((first | guard_hyp gan | guard_hyp k); with_reducible refine aq_in ?_) | with_reducible refine aq_go ?_ | with_reducible refine ae_go ?_ | ((first | guard_hyp gan | guard_hyp k); with_reducible refine wpAny_of_eq (by assumption) ?_) | ((first | guard_hyp gan | guard_hyp k); with_reducible refine m_peek KX D9 chg0 (by assumption) ?_) | wp_delta | with_reducible refine wpAny_holding ?_ | with_reducible refine wpAny_standAt ?_ | with_reducible refine wpAny_rule ?_ | with_reducible refine wpAny_fresh' ?_ | ((first | guard_hyp gan | guard_hyp k); with_reducible refine te_in ?_) | ((with_reducible refine' wpAny_load (D9.keep _ _ ?ko nochg) ?_); (case ko => with_reducible first | exact gan | exact gbt | exact gsl | exact gst | exact gI | exact gL | exact gG | exact gE | exact gM | exact gN | exact k.cls | exact k.ns | exact k.dsc | exact k.ini | exact k.lt | exact k.cell | exact gi | exact gj)) | ((with_reducible refine' wpAny_loadPart (D9.keep _ _ ?ko nochg) ?_); (case ko => with_reducible first | exact gan | exact gbt | exact gsl | exact gst | exact gI | exact gL | exact gG | exact gE | exact gM | exact gN | exact k.cls | exact k.ns | exact k.dsc | exact k.ini | exact k.lt | exact k.cell | exact gi | exact gj)) | ((with_reducible refine' m_loadPart D9 ?hm ?_); (case hm => (repeat (first | exact List.Mem.head _ | apply List.Mem.tail)))) | ((with_reducible refine' m_load D9 ?hm ?_); (case hm => (repeat (first | exact List.Mem.head _ | apply List.Mem.tail)))) | ((with_reducible refine' m_alloc D9 ?ho ?_); (case ho => exact rfl); clear D9; intro a hN D9) | ((with_reducible refine' m_updPart D9 ?hp ?hf ?_); (case hp => (repeat (first | exact Put.here | apply Put.there))); (case hf => exact rfl); clear D9; intro hN D9; try dsimp only at D9) | ((with_reducible refine' m_upd D9 ?hp ?hf ?_); (case hp => (repeat (first | exact Put.here | apply Put.there))); (case hf => exact rfl); clear D9; intro hN D9; try dsimp only at D9) | ((with_reducible refine' m_loadC D9 ?hm ?_); (case hm => exact List.Mem.head _)) | ((with_reducible refine' m_loadK KX D9 ?hc ?e ?_); (case hc => first | exact chg0 | exact chg33 _); (case e => k_is)) | ((with_reducible refine' PySem.wpAny_ite_false ?zz ?_); (case zz => kernel_rfl!)) | ((with_reducible refine' PySem.wpAny_ite_true ?zz ?_); (case zz => kernel_rfl!)))
  have nsm : an ≠ sysModules := D9.ne (List.Mem.head _) (KX 1 _ (by k_is))
  refine PySem.wpAny_ite_false (by simp [nsm]) ?_
  repeat (first | with_reducible refine bq ?_ | with_reducible refine bq_go ?_ | with_reducible refine rv_go ?_ | with_reducible refine fin_done ?_ | with_reducible refine fin_again ?_ | with_reducible refine err_go ?_ | with_reducible refine rv_err ?_ | with_reducible refine wpAny_pure ?_ | with_reducible refine eq_in ?_ | with_reducible refine eq_go ?_ | ((with_reducible refine PySem.wpAny_enterFrame ?hl ?hd ?_); (case hl => exact (TW _ (lg_KK KX D9 (by first | exact chg0 | exact chg33 _))).nolimit); (case hd => exact Nat.le_of_ble_eq_true rfl)) | ((with_reducible refine' m_nsGetK KX D9 ?hc ?e ?_); (case hc => first | exact chg0 | exact chg33 _); (case e => k_is)) | ((with_reducible refine' m_nsSetNew D9 ?hs ?hr ?he ?_); (case hs => (repeat (first | exact Spl.here | apply Spl.there))); (case hr => kernel_rfl!); (case he => (intro hh kt; kernel_rfl!)); clear D9; intro hh kt hN D9; (try simp only [List.cons_append, List.nil_append] at D9)) | ((with_reducible refine' m_nsSetMod D9 ?hs ?hr ?he ?_); (case hs => (repeat (first | exact Spl.here | apply Spl.there))); (case hr => kernel_rfl!); (case he => (intro hh kt; kernel_rfl!)); clear D9; intro hN D9; (try simp only [List.cons_append, List.nil_append] at D9)) | ((with_reducible refine' m_nsDel D9 ?hs ?hh ?he ?_); (case hs => (repeat (first | exact Spl.here | apply Spl.there))); (case hh => kernel_rfl!); (case he => kernel_rfl!); clear D9; intro hN D9; (try simp only [List.cons_append, List.nil_append] at D9)) | ((with_reducible refine' m_nsGet (rv := none) D9 ?hm ?e ?_); (case hm => (repeat (first | exact List.Mem.head _ | apply List.Mem.tail))); (case e => kernel_rfl!)) | with_reducible refine wpAny_askSetting ?_ | with_reducible refine wpAny_point ?_ | with_reducible refine PyProof.Rows.lt_int ?_ | ((with_reducible refine callWith_F (q := 280) ?fnq ?_); (case fnq => exact ⟨_, _, _, _, lg_KK KX D9 chg0 _ _ (by k_is)⟩)) | ((with_reducible refine' m_nsL (rv := some (.ref ia)) hns ?ee ?_); (case ee => kernel_rfl!)) | ((with_reducible refine' m_nsL (rv := some (.ref ib)) hns ?ee ?_); (case ee => kernel_rfl!)) | ((first | guard_hyp gan | guard_hyp k); with_reducible refine te_in' ?_) | with_reducible refine te_go ?_ | ((first | guard_hyp gan | guard_hyp k); with_reducible refine aq_in ?_) | with_reducible refine aq_go ?_ | with_reducible refine ae_go ?_ | ((first | guard_hyp gan | guard_hyp k); with_reducible refine wpAny_of_eq (by assumption) ?_) | ((first | guard_hyp gan | guard_hyp k); with_reducible refine m_peek KX D9 chg0 (by assumption) ?_) | wp_delta | with_reducible refine wpAny_holding ?_ | with_reducible refine wpAny_standAt ?_ | with_reducible refine wpAny_rule ?_ | with_reducible refine wpAny_fresh' ?_ | ((first | guard_hyp gan | guard_hyp k); with_reducible refine te_in ?_) | ((with_reducible refine' wpAny_load (D9.keep _ _ ?ko nochg) ?_); (case ko => with_reducible first | exact gan | exact gbt | exact gsl | exact gst | exact gI | exact gL | exact gG | exact gE | exact gM | exact gN | exact k.cls | exact k.ns | exact k.dsc | exact k.ini | exact k.lt | exact k.cell | exact gi | exact gj)) | ((with_reducible refine' wpAny_loadPart (D9.keep _ _ ?ko nochg) ?_); (case ko => with_reducible first | exact gan | exact gbt | exact gsl | exact gst | exact gI | exact gL | exact gG | exact gE | exact gM | exact gN | exact k.cls | exact k.ns | exact k.dsc | exact k.ini | exact k.lt | exact k.cell | exact gi | exact gj)) | ((with_reducible refine' m_loadPart D9 ?hm ?_); (case hm => (repeat (first | exact List.Mem.head _ | apply List.Mem.tail)))) | ((with_reducible refine' m_load D9 ?hm ?_); (case hm => (repeat (first | exact List.Mem.head _ | apply List.Mem.tail)))) | ((with_reducible refine' m_alloc D9 ?ho ?_); (case ho => exact rfl); clear D9; intro a hN D9) | ((with_reducible refine' m_updPart D9 ?hp ?hf ?_); (case hp => (repeat (first | exact Put.here | apply Put.there))); (case hf => exact rfl); clear D9; intro hN D9; try dsimp only at D9) | ((with_reducible refine' m_upd D9 ?hp ?hf ?_); (case hp => (repeat (first | exact Put.here | apply Put.there))); (case hf => exact rfl); clear D9; intro hN D9; try dsimp only at D9) | ((with_reducible refine' m_loadC D9 ?hm ?_); (case hm => exact List.Mem.head _)) | ((with_reducible refine' m_loadK KX D9 ?hc ?e ?_); (case hc => first | exact chg0 | exact chg33 _); (case e => k_is)) | ((with_reducible refine' PySem.wpAny_ite_false ?zz ?_); (case zz => kernel_rfl!)) | ((with_reducible refine' PySem.wpAny_ite_true ?zz ?_); (case zz => kernel_rfl!)))
  dsimp only
  refine wpAny_of_eq (a := some (.builtin "dict.__getitem__")) (by rw [typeLookup_type, builtinLookup_eq_fast]; kernel_rfl) ?_
  repeat (first | with_reducible refine bq ?_ | with_reducible refine bq_go ?_ | with_reducible refine rv_go ?_ | with_reducible refine fin_done ?_ | with_reducible refine fin_again ?_ | with_reducible refine err_go ?_ | with_reducible refine rv_err ?_ | with_reducible refine wpAny_pure ?_ | with_reducible refine eq_in ?_ | with_reducible refine eq_go ?_ | ((with_reducible refine PySem.wpAny_enterFrame ?hl ?hd ?_); (case hl => exact (TW _ (lg_KK KX D9 (by first | exact chg0 | exact chg33 _))).nolimit); (case hd => exact Nat.le_of_ble_eq_true rfl)) | ((with_reducible refine' m_nsGetK KX D9 ?hc ?e ?_); (case hc => first | exact chg0 | exact chg33 _); (case e => k_is)) | ((with_reducible refine' m_nsSetNew D9 ?hs ?hr ?he ?_); (case hs => (repeat (first | exact Spl.here | apply Spl.there))); (case hr => kernel_rfl!); (case he => (intro hh kt; kernel_rfl!)); clear D9; intro hh kt hN D9; (try simp only [List.cons_append, List.nil_append] at D9)) | ((with_reducible refine' m_nsSetMod D9 ?hs ?hr ?he ?_); (case hs => (repeat (first | exact Spl.here | apply Spl.there))); (case hr => kernel_rfl!); (case he => (intro hh kt; kernel_rfl!)); clear D9; intro hN D9; (try simp only [List.cons_append, List.nil_append] at D9)) | ((with_reducible refine' m_nsDel D9 ?hs ?hh ?he ?_); (case hs => (repeat (first | exact Spl.here | apply Spl.there))); (case hh => kernel_rfl!); (case he => kernel_rfl!); clear D9; intro hN D9; (try simp only [List.cons_append, List.nil_append] at D9)) | ((with_reducible refine' m_nsGet (rv := none) D9 ?hm ?e ?_); (case hm => (repeat (first | exact List.Mem.head _ | apply List.Mem.tail))); (case e => kernel_rfl!)) | with_reducible refine wpAny_askSetting ?_ | with_reducible refine wpAny_point ?_ | with_reducible refine PyProof.Rows.lt_int ?_ | ((with_reducible refine callWith_F (q := 280) ?fnq ?_); (case fnq => exact ⟨_, _, _, _, lg_KK KX D9 chg0 _ _ (by k_is)⟩)) | ((with_reducible refine' m_nsL (rv := some (.ref ia)) hns ?ee ?_); (case ee => kernel_rfl!)) | ((with_reducible refine' m_nsL (rv := some (.ref ib)) hns ?ee ?_); (case ee => kernel_rfl!)) | ((first | guard_hyp gan | guard_hyp k); with_reducible refine te_in' ?_) | with_reducible refine te_go ?_ | ((first | guard_hyp gan | guard_hyp k); with_reducible refine aq_in ?_) | with_reducible refine aq_go ?_ | with_reducible refine ae_go ?_ | ((first | guard_hyp gan | guard_hyp k); with_reducible refine wpAny_of_eq (by assumption) ?_) | ((first | guard_hyp gan | guard_hyp k); with_reducible refine m_peek KX D9 chg0 (by assumption) ?_) | wp_delta | with_reducible refine wpAny_holding ?_ | with_reducible refine wpAny_standAt ?_ | with_reducible refine wpAny_rule ?_ | with_reducible refine wpAny_fresh' ?_ | ((first | guard_hyp gan | guard_hyp k); with_reducible refine te_in ?_) | ((with_reducible refine' wpAny_load (D9.keep _ _ ?ko nochg) ?_); (case ko => with_reducible first | exact gan | exact gbt | exact gsl | exact gst | exact gI | exact gL | exact gG | exact gE | exact gM | exact gN | exact k.cls | exact k.ns | exact k.dsc | exact k.ini | exact k.lt | exact k.cell | exact gi | exact gj)) | ((with_reducible refine' wpAny_loadPart (D9.keep _ _ ?ko nochg) ?_); (case ko => with_reducible first | exact gan | exact gbt | exact gsl | exact gst | exact gI | exact gL | exact gG | exact gE | exact gM | exact gN | exact k.cls | exact k.ns | exact k.dsc | exact k.ini | exact k.lt | exact k.cell | exact gi | exact gj)) | ((with_reducible refine' m_loadPart D9 ?hm ?_); (case hm => (repeat (first | exact List.Mem.head _ | apply List.Mem.tail)))) | ((with_reducible refine' m_load D9 ?hm ?_); (case hm => (repeat (first | exact List.Mem.head _ | apply List.Mem.tail)))) | ((with_reducible refine' m_alloc D9 ?ho ?_); (case ho => exact rfl); clear D9; intro a hN D9) | ((with_reducible refine' m_updPart D9 ?hp ?hf ?_); (case hp => (repeat (first | exact Put.here | apply Put.there))); (case hf => exact rfl); clear D9; intro hN D9; try dsimp only at D9) | ((with_reducible refine' m_upd D9 ?hp ?hf ?_); (case hp => (repeat (first | exact Put.here | apply Put.there))); (case hf => exact rfl); clear D9; intro hN D9; try dsimp only at D9) | ((with_reducible refine' m_loadC D9 ?hm ?_); (case hm => exact List.Mem.head _)) | ((with_reducible refine' m_loadK KX D9 ?hc ?e ?_); (case hc => first | exact chg0 | exact chg33 _); (case e => k_is)) | ((with_reducible refine' PySem.wpAny_ite_false ?zz ?_); (case zz => kernel_rfl!)) | ((with_reducible refine' PySem.wpAny_ite_true ?zz ?_); (case zz => kernel_rfl!)))
  refine wpAny_load (D9.keep 33 _ K33 fun _ hp => nomatch hp) ?_
  repeat (first | with_reducible refine bq ?_ | with_reducible refine bq_go ?_ | with_reducible refine rv_go ?_ | with_reducible refine fin_done ?_ | with_reducible refine fin_again ?_ | with_reducible refine err_go ?_ | with_reducible refine rv_err ?_ | with_reducible refine wpAny_pure ?_ | with_reducible refine eq_in ?_ | with_reducible refine eq_go ?_ | ((with_reducible refine PySem.wpAny_enterFrame ?hl ?hd ?_); (case hl => exact (TW _ (lg_KK KX D9 (by first | exact chg0 | exact chg33 _))).nolimit); (case hd => exact Nat.le_of_ble_eq_true rfl)) | ((with_reducible refine' m_nsGetK KX D9 ?hc ?e ?_); (case hc => first | exact chg0 | exact chg33 _); (case e => k_is)) | ((with_reducible refine' m_nsSetNew D9 ?hs ?hr ?he ?_); (case hs => (repeat (first | exact Spl.here | apply Spl.there))); (case hr => kernel_rfl!); (case he => (intro hh kt; kernel_rfl!)); clear D9; intro hh kt hN D9; (try simp only [List.cons_append, List.nil_append] at D9)) | ((with_reducible refine' m_nsSetMod D9 ?hs ?hr ?he ?_); (case hs => (repeat (first | exact Spl.here | apply Spl.there))); (case hr => kernel_rfl!); (case he => (intro hh kt; kernel_rfl!)); clear D9; intro hN D9; (try simp only [List.cons_append, List.nil_append] at D9)) | ((with_reducible refine' m_nsDel D9 ?hs ?hh ?he ?_); (case hs => (repeat (first | exact Spl.here | apply Spl.there))); (case hh => kernel_rfl!); (case he => kernel_rfl!); clear D9; intro hN D9; (try simp only [List.cons_append, List.nil_append] at D9)) | ((with_reducible refine' m_nsGet (rv := none) D9 ?hm ?e ?_); (case hm => (repeat (first | exact List.Mem.head _ | apply List.Mem.tail))); (case e => kernel_rfl!)) | with_reducible refine wpAny_askSetting ?_ | with_reducible refine wpAny_point ?_ | with_reducible refine PyProof.Rows.lt_int ?_ | ((with_reducible refine callWith_F (q := 280) ?fnq ?_); (case fnq => exact ⟨_, _, _, _, lg_KK KX D9 chg0 _ _ (by k_is)⟩)) | ((with_reducible refine' m_nsL (rv := some (.ref ia)) hns ?ee ?_); (case ee => kernel_rfl!)) | ((with_reducible refine' m_nsL (rv := some (.ref ib)) hns ?ee ?_); (case ee => kernel_rfl!)) | ((first | guard_hyp gan | guard_hyp k); with_reducible refine te_in' ?_) | with_reducible refine te_go ?_ | ((first | guard_hyp gan | guard_hyp k); with_reducible refine aq_in ?_) | with_reducible refine aq_go ?_ | with_reducible refine ae_go ?_ | ((first | guard_hyp gan | guard_hyp k); with_reducible refine wpAny_of_eq (by assumption) ?_) | ((first | guard_hyp gan | guard_hyp k); with_reducible refine m_peek KX D9 chg0 (by assumption) ?_) | wp_delta | with_reducible refine wpAny_holding ?_ | with_reducible refine wpAny_standAt ?_ | with_reducible refine wpAny_rule ?_ | with_reducible refine wpAny_fresh' ?_ | ((first | guard_hyp gan | guard_hyp k); with_reducible refine te_in ?_) | ((with_reducible refine' wpAny_load (D9.keep _ _ ?ko nochg) ?_); (case ko => with_reducible first | exact gan | exact gbt | exact gsl | exact gst | exact gI | exact gL | exact gG | exact gE | exact gM | exact gN | exact k.cls | exact k.ns | exact k.dsc | exact k.ini | exact k.lt | exact k.cell | exact gi | exact gj)) | ((with_reducible refine' wpAny_loadPart (D9.keep _ _ ?ko nochg) ?_); (case ko => with_reducible first | exact gan | exact gbt | exact gsl | exact gst | exact gI | exact gL | exact gG | exact gE | exact gM | exact gN | exact k.cls | exact k.ns | exact k.dsc | exact k.ini | exact k.lt | exact k.cell | exact gi | exact gj)) | ((with_reducible refine' m_loadPart D9 ?hm ?_); (case hm => (repeat (first | exact List.Mem.head _ | apply List.Mem.tail)))) | ((with_reducible refine' m_load D9 ?hm ?_); (case hm => (repeat (first | exact List.Mem.head _ | apply List.Mem.tail)))) | ((with_reducible refine' m_alloc D9 ?ho ?_); (case ho => exact rfl); clear D9; intro a hN D9) | ((with_reducible refine' m_updPart D9 ?hp ?hf ?_); (case hp => (repeat (first | exact Put.here | apply Put.there))); (case hf => exact rfl); clear D9; intro hN D9; try dsimp only at D9) | ((with_reducible refine' m_upd D9 ?hp ?hf ?_); (case hp => (repeat (first | exact Put.here | apply Put.there))); (case hf => exact rfl); clear D9; intro hN D9; try dsimp only at D9) | ((with_reducible refine' m_loadC D9 ?hm ?_); (case hm => exact List.Mem.head _)) | ((with_reducible refine' m_loadK KX D9 ?hc ?e ?_); (case hc => first | exact chg0 | exact chg33 _); (case e => k_is)) | ((with_reducible refine' PySem.wpAny_ite_false ?zz ?_); (case zz => kernel_rfl!)) | ((with_reducible refine' PySem.wpAny_ite_true ?zz ?_); (case zz => kernel_rfl!)))
  generalize hS : Scope.freeNames _ = fn
  have hfn : fn = [Str.ofString "mycmp"] := by rw [← hS]; unfold Scope.freeNames; rw [PySem.W.msortQ_eq]; kernel_rfl
  clear hS; subst hfn
  repeat (first | with_reducible refine bq ?_ | with_reducible refine bq_go ?_ | with_reducible refine rv_go ?_ | with_reducible refine fin_done ?_ | with_reducible refine fin_again ?_ | with_reducible refine err_go ?_ | with_reducible refine rv_err ?_ | with_reducible refine wpAny_pure ?_ | with_reducible refine eq_in ?_ | with_reducible refine eq_go ?_ | ((with_reducible refine PySem.wpAny_enterFrame ?hl ?hd ?_); (case hl => exact (TW _ (lg_KK KX D9 (by first | exact chg0 | exact chg33 _))).nolimit); (case hd => exact Nat.le_of_ble_eq_true rfl)) | ((with_reducible refine' m_nsGetK KX D9 ?hc ?e ?_); (case hc => first | exact chg0 | exact chg33 _); (case e => k_is)) | ((with_reducible refine' m_nsSetNew D9 ?hs ?hr ?he ?_); (case hs => (repeat (first | exact Spl.here | apply Spl.there))); (case hr => kernel_rfl!); (case he => (intro hh kt; kernel_rfl!)); clear D9; intro hh kt hN D9; (try simp only [List.cons_append, List.nil_append] at D9)) | ((with_reducible refine' m_nsSetMod D9 ?hs ?hr ?he ?_); (case hs => (repeat (first | exact Spl.here | apply Spl.there))); (case hr => kernel_rfl!); (case he => (intro hh kt; kernel_rfl!)); clear D9; intro hN D9; (try simp only [List.cons_append, List.nil_append] at D9)) | ((with_reducible refine' m_nsDel D9 ?hs ?hh ?he ?_); (case hs => (repeat (first | exact Spl.here | apply Spl.there))); (case hh => kernel_rfl!); (case he => kernel_rfl!); clear D9; intro hN D9; (try simp only [List.cons_append, List.nil_append] at D9)) | ((with_reducible refine' m_nsGet (rv := none) D9 ?hm ?e ?_); (case hm => (repeat (first | exact List.Mem.head _ | apply List.Mem.tail))); (case e => kernel_rfl!)) | with_reducible refine wpAny_askSetting ?_ | with_reducible refine wpAny_point ?_ | with_reducible refine PyProof.Rows.lt_int ?_ | ((with_reducible refine callWith_F (q := 280) ?fnq ?_); (case fnq => exact ⟨_, _, _, _, lg_KK KX D9 chg0 _ _ (by k_is)⟩)) | ((with_reducible refine' m_nsL (rv := some (.ref ia)) hns ?ee ?_); (case ee => kernel_rfl!)) | ((with_reducible refine' m_nsL (rv := some (.ref ib)) hns ?ee ?_); (case ee => kernel_rfl!)) | ((first | guard_hyp gan | guard_hyp k); with_reducible refine te_in' ?_) | with_reducible refine te_go ?_ | ((first | guard_hyp gan | guard_hyp k); with_reducible refine aq_in ?_) | with_reducible refine aq_go ?_ | with_reducible refine ae_go ?_ | ((first | guard_hyp gan | guard_hyp k); with_reducible refine wpAny_of_eq (by assumption) ?_) | ((first | guard_hyp gan | guard_hyp k); with_reducible refine m_peek KX D9 chg0 (by assumption) ?_) | wp_delta | with_reducible refine wpAny_holding ?_ | with_reducible refine wpAny_standAt ?_ | with_reducible refine wpAny_rule ?_ | with_reducible refine wpAny_fresh' ?_ | ((first | guard_hyp gan | guard_hyp k); with_reducible refine te_in ?_) | ((with_reducible refine' wpAny_load (D9.keep _ _ ?ko nochg) ?_); (case ko => with_reducible first | exact gan | exact gbt | exact gsl | exact gst | exact gI | exact gL | exact gG | exact gE | exact gM | exact gN | exact k.cls | exact k.ns | exact k.dsc | exact k.ini | exact k.lt | exact k.cell | exact gi | exact gj)) | ((with_reducible refine' wpAny_loadPart (D9.keep _ _ ?ko nochg) ?_); (case ko => with_reducible first | exact gan | exact gbt | exact gsl | exact gst | exact gI | exact gL | exact gG | exact gE | exact gM | exact gN | exact k.cls | exact k.ns | exact k.dsc | exact k.ini | exact k.lt | exact k.cell | exact gi | exact gj)) | ((with_reducible refine' m_loadPart D9 ?hm ?_); (case hm => (repeat (first | exact List.Mem.head _ | apply List.Mem.tail)))) | ((with_reducible refine' m_load D9 ?hm ?_); (case hm => (repeat (first | exact List.Mem.head _ | apply List.Mem.tail)))) | ((with_reducible refine' m_alloc D9 ?ho ?_); (case ho => exact rfl); clear D9; intro a hN D9) | ((with_reducible refine' m_updPart D9 ?hp ?hf ?_); (case hp => (repeat (first | exact Put.here | apply Put.there))); (case hf => exact rfl); clear D9; intro hN D9; try dsimp only at D9) | ((with_reducible refine' m_upd D9 ?hp ?hf ?_); (case hp => (repeat (first | exact Put.here | apply Put.there))); (case hf => exact rfl); clear D9; intro hN D9; try dsimp only at D9) | ((with_reducible refine' m_loadC D9 ?hm ?_); (case hm => exact List.Mem.head _)) | ((with_reducible refine' m_loadK KX D9 ?hc ?e ?_); (case hc => first | exact chg0 | exact chg33 _); (case e => k_is)) | ((with_reducible refine' PySem.wpAny_ite_false ?zz ?_); (case zz => kernel_rfl!)) | ((with_reducible refine' PySem.wpAny_ite_true ?zz ?_); (case zz => kernel_rfl!)))
  refine wpAny_load (D9.keep 33 _ K33 fun _ hp => nomatch hp) ?_
  repeat (first | with_reducible refine bq ?_ | with_reducible refine bq_go ?_ | with_reducible refine rv_go ?_ | with_reducible refine fin_done ?_ | with_reducible refine fin_again ?_ | with_reducible refine err_go ?_ | with_reducible refine rv_err ?_ | with_reducible refine wpAny_pure ?_ | with_reducible refine eq_in ?_ | with_reducible refine eq_go ?_ | ((with_reducible refine PySem.wpAny_enterFrame ?hl ?hd ?_); (case hl => exact (TW _ (lg_KK KX D9 (by first | exact chg0 | exact chg33 _))).nolimit); (case hd => exact Nat.le_of_ble_eq_true rfl)) | ((with_reducible refine' m_nsGetK KX D9 ?hc ?e ?_); (case hc => first | exact chg0 | exact chg33 _); (case e => k_is)) | ((with_reducible refine' m_nsSetNew D9 ?hs ?hr ?he ?_); (case hs => (repeat (first | exact Spl.here | apply Spl.there))); (case hr => kernel_rfl!); (case he => (intro hh kt; kernel_rfl!)); clear D9; intro hh kt hN D9; (try simp only [List.cons_append, List.nil_append] at D9)) | ((with_reducible refine' m_nsSetMod D9 ?hs ?hr ?he ?_); (case hs => (repeat (first | exact Spl.here | apply Spl.there))); (case hr => kernel_rfl!); (case he => (intro hh kt; kernel_rfl!)); clear D9; intro hN D9; (try simp only [List.cons_append, List.nil_append] at D9)) | ((with_reducible refine' m_nsDel D9 ?hs ?hh ?he ?_); (case hs => (repeat (first | exact Spl.here | apply Spl.there))); (case hh => kernel_rfl!); (case he => kernel_rfl!); clear D9; intro hN D9; (try simp only [List.cons_append, List.nil_append] at D9)) | ((with_reducible refine' m_nsGet (rv := none) D9 ?hm ?e ?_); (case hm => (repeat (first | exact List.Mem.head _ | apply List.Mem.tail))); (case e => kernel_rfl!)) | with_reducible refine wpAny_askSetting ?_ | with_reducible refine wpAny_point ?_ | with_reducible refine PyProof.Rows.lt_int ?_ | ((with_reducible refine callWith_F (q := 280) ?fnq ?_); (case fnq => exact ⟨_, _, _, _, lg_KK KX D9 chg0 _ _ (by k_is)⟩)) | ((with_reducible refine' m_nsL (rv := some (.ref ia)) hns ?ee ?_); (case ee => kernel_rfl!)) | ((with_reducible refine' m_nsL (rv := some (.ref ib)) hns ?ee ?_); (case ee => kernel_rfl!)) | ((first | guard_hyp gan | guard_hyp k); with_reducible refine te_in' ?_) | with_reducible refine te_go ?_ | ((first | guard_hyp gan | guard_hyp k); with_reducible refine aq_in ?_) | with_reducible refine aq_go ?_ | with_reducible refine ae_go ?_ | ((first | guard_hyp gan | guard_hyp k); with_reducible refine wpAny_of_eq (by assumption) ?_) | ((first | guard_hyp gan | guard_hyp k); with_reducible refine m_peek KX D9 chg0 (by assumption) ?_) | wp_delta | with_reducible refine wpAny_holding ?_ | with_reducible refine wpAny_standAt ?_ | with_reducible refine wpAny_rule ?_ | with_reducible refine wpAny_fresh' ?_ | ((first | guard_hyp gan | guard_hyp k); with_reducible refine te_in ?_) | ((with_reducible refine' wpAny_load (D9.keep _ _ ?ko nochg) ?_); (case ko => with_reducible first | exact gan | exact gbt | exact gsl | exact gst | exact gI | exact gL | exact gG | exact gE | exact gM | exact gN | exact k.cls | exact k.ns | exact k.dsc | exact k.ini | exact k.lt | exact k.cell | exact gi | exact gj)) | ((with_reducible refine' wpAny_loadPart (D9.keep _ _ ?ko nochg) ?_); (case ko => with_reducible first | exact gan | exact gbt | exact gsl | exact gst | exact gI | exact gL | exact gG | exact gE | exact gM | exact gN | exact k.cls | exact k.ns | exact k.dsc | exact k.ini | exact k.lt | exact k.cell | exact gi | exact gj)) | ((with_reducible refine' m_loadPart D9 ?hm ?_); (case hm => (repeat (first | exact List.Mem.head _ | apply List.Mem.tail)))) | ((with_reducible refine' m_load D9 ?hm ?_); (case hm => (repeat (first | exact List.Mem.head _ | apply List.Mem.tail)))) | ((with_reducible refine' m_alloc D9 ?ho ?_); (case ho => exact rfl); clear D9; intro a hN D9) | ((with_reducible refine' m_updPart D9 ?hp ?hf ?_); (case hp => (repeat (first | exact Put.here | apply Put.there))); (case hf => exact rfl); clear D9; intro hN D9; try dsimp only at D9) | ((with_reducible refine' m_upd D9 ?hp ?hf ?_); (case hp => (repeat (first | exact Put.here | apply Put.there))); (case hf => exact rfl); clear D9; intro hN D9; try dsimp only at D9) | ((with_reducible refine' m_loadC D9 ?hm ?_); (case hm => exact List.Mem.head _)) | ((with_reducible refine' m_loadK KX D9 ?hc ?e ?_); (case hc => first | exact chg0 | exact chg33 _); (case e => k_is)) | ((with_reducible refine' PySem.wpAny_ite_false ?zz ?_); (case zz => kernel_rfl!)) | ((with_reducible refine' PySem.wpAny_ite_true ?zz ?_); (case zz => kernel_rfl!)))
  obtain ⟨cK, rfl⟩ : ∃ x, x = a := ⟨a, rfl⟩
  obtain ⟨PK, rfl⟩ : ∃ x, x = a := ⟨a, rfl⟩
  refine m_turn (o' := tableObj #[rawInt 5, rawInt 4, .ref cK]) D9 K33 (by kernel_rfl) rfl ?_
  clear D9; intro hN D9
  generalize hoC : (⟨Value.type "code", none, _, #[]⟩ : Obj) = oC at D9
  have IK : IsCodeO oC PK := by subst hoC; exact ⟨_, _, _, _, _, _, _, _, rfl, rfl, rfl, rfl, rfl, rfl, rfl, rfl⟩
  have hneK : cK ≠ PK := D9.nel (l := []) rfl (List.Mem.head _)
  clear hoC
  repeat (first | with_reducible refine bq ?_ | with_reducible refine bq_go ?_ | with_reducible refine rv_go ?_ | with_reducible refine fin_done ?_ | with_reducible refine fin_again ?_ | with_reducible refine err_go ?_ | with_reducible refine rv_err ?_ | with_reducible refine wpAny_pure ?_ | with_reducible refine eq_in ?_ | with_reducible refine eq_go ?_ | ((with_reducible refine PySem.wpAny_enterFrame ?hl ?hd ?_); (case hl => exact (TW _ (lg_KK KX D9 (by first | exact chg0 | exact chg33 _))).nolimit); (case hd => exact Nat.le_of_ble_eq_true rfl)) | ((with_reducible refine' m_nsGetK KX D9 ?hc ?e ?_); (case hc => first | exact chg0 | exact chg33 _); (case e => k_is)) | ((with_reducible refine' m_nsSetNew D9 ?hs ?hr ?he ?_); (case hs => (repeat (first | exact Spl.here | apply Spl.there))); (case hr => kernel_rfl!); (case he => (intro hh kt; kernel_rfl!)); clear D9; intro hh kt hN D9; (try simp only [List.cons_append, List.nil_append] at D9)) | ((with_reducible refine' m_nsSetMod D9 ?hs ?hr ?he ?_); (case hs => (repeat (first | exact Spl.here | apply Spl.there))); (case hr => kernel_rfl!); (case he => (intro hh kt; kernel_rfl!)); clear D9; intro hN D9; (try simp only [List.cons_append, List.nil_append] at D9)) | ((with_reducible refine' m_nsDel D9 ?hs ?hh ?he ?_); (case hs => (repeat (first | exact Spl.here | apply Spl.there))); (case hh => kernel_rfl!); (case he => kernel_rfl!); clear D9; intro hN D9; (try simp only [List.cons_append, List.nil_append] at D9)) | ((with_reducible refine' m_nsGet (rv := none) D9 ?hm ?e ?_); (case hm => (repeat (first | exact List.Mem.head _ | apply List.Mem.tail))); (case e => kernel_rfl!)) | with_reducible refine wpAny_askSetting ?_ | with_reducible refine wpAny_point ?_ | with_reducible refine PyProof.Rows.lt_int ?_ | ((with_reducible refine callWith_F (q := 280) ?fnq ?_); (case fnq => exact ⟨_, _, _, _, lg_KK KX D9 chg0 _ _ (by k_is)⟩)) | ((with_reducible refine' m_nsL (rv := some (.ref ia)) hns ?ee ?_); (case ee => kernel_rfl!)) | ((with_reducible refine' m_nsL (rv := some (.ref ib)) hns ?ee ?_); (case ee => kernel_rfl!)) | ((first | guard_hyp gan | guard_hyp k); with_reducible refine te_in' ?_) | with_reducible refine te_go ?_ | ((first | guard_hyp gan | guard_hyp k); with_reducible refine aq_in ?_) | with_reducible refine aq_go ?_ | with_reducible refine ae_go ?_ | ((first | guard_hyp gan | guard_hyp k); with_reducible refine wpAny_of_eq (by assumption) ?_) | ((first | guard_hyp gan | guard_hyp k); with_reducible refine m_peek KX D9 chg0 (by assumption) ?_) | wp_delta | with_reducible refine wpAny_holding ?_ | with_reducible refine wpAny_standAt ?_ | with_reducible refine wpAny_rule ?_ | with_reducible refine wpAny_fresh' ?_ | ((first | guard_hyp gan | guard_hyp k); with_reducible refine te_in ?_) | ((with_reducible refine' wpAny_load (D9.keep _ _ ?ko nochg) ?_); (case ko => with_reducible first | exact gan | exact gbt | exact gsl | exact gst | exact gI | exact gL | exact gG | exact gE | exact gM | exact gN | exact k.cls | exact k.ns | exact k.dsc | exact k.ini | exact k.lt | exact k.cell | exact gi | exact gj)) | ((with_reducible refine' wpAny_loadPart (D9.keep _ _ ?ko nochg) ?_); (case ko => with_reducible first | exact gan | exact gbt | exact gsl | exact gst | exact gI | exact gL | exact gG | exact gE | exact gM | exact gN | exact k.cls | exact k.ns | exact k.dsc | exact k.ini | exact k.lt | exact k.cell | exact gi | exact gj)) | ((with_reducible refine' m_loadPart D9 ?hm ?_); (case hm => (repeat (first | exact List.Mem.head _ | apply List.Mem.tail)))) | ((with_reducible refine' m_load D9 ?hm ?_); (case hm => (repeat (first | exact List.Mem.head _ | apply List.Mem.tail)))) | ((with_reducible refine' m_alloc D9 ?ho ?_); (case ho => exact rfl); clear D9; intro a hN D9) | ((with_reducible refine' m_updPart D9 ?hp ?hf ?_); (case hp => (repeat (first | exact Put.here | apply Put.there))); (case hf => exact rfl); clear D9; intro hN D9; try dsimp only at D9) | ((with_reducible refine' m_upd D9 ?hp ?hf ?_); (case hp => (repeat (first | exact Put.here | apply Put.there))); (case hf => exact rfl); clear D9; intro hN D9; try dsimp only at D9) | ((with_reducible refine' m_loadC D9 ?hm ?_); (case hm => exact List.Mem.head _)) | ((with_reducible refine' m_loadK KX D9 ?hc ?e ?_); (case hc => first | exact chg0 | exact chg33 _); (case e => k_is)) | ((with_reducible refine' PySem.wpAny_ite_false ?zz ?_); (case zz => kernel_rfl!)) | ((with_reducible refine' PySem.wpAny_ite_true ?zz ?_); (case zz => kernel_rfl!)))
  refine wpAny_run (codeAny_body rfl rfl ?_)
  refine wpAny_gen fun QB EB hQB hEB => ?_
  refine exec_hold ?_
  repeat (first | with_reducible refine bq ?_ | with_reducible refine bq_go ?_ | with_reducible refine rv_go ?_ | with_reducible refine fin_done ?_ | with_reducible refine fin_again ?_ | with_reducible refine err_go ?_ | with_reducible refine rv_err ?_ | with_reducible refine wpAny_pure ?_ | with_reducible refine eq_in ?_ | with_reducible refine eq_go ?_ | ((with_reducible refine PySem.wpAny_enterFrame ?hl ?hd ?_); (case hl => exact (TW _ (lg_KK KX D9 (by first | exact chg0 | exact chg33 _))).nolimit); (case hd => exact Nat.le_of_ble_eq_true rfl)) | ((with_reducible refine' m_nsGetK KX D9 ?hc ?e ?_); (case hc => first | exact chg0 | exact chg33 _); (case e => k_is)) | ((with_reducible refine' m_nsSetNew D9 ?hs ?hr ?he ?_); (case hs => (repeat (first | exact Spl.here | apply Spl.there))); (case hr => kernel_rfl!); (case he => (intro hh kt; kernel_rfl!)); clear D9; intro hh kt hN D9; (try simp only [List.cons_append, List.nil_append] at D9)) | ((with_reducible refine' m_nsSetMod D9 ?hs ?hr ?he ?_); (case hs => (repeat (first | exact Spl.here | apply Spl.there))); (case hr => kernel_rfl!); (case he => (intro hh kt; kernel_rfl!)); clear D9; intro hN D9; (try simp only [List.cons_append, List.nil_append] at D9)) | ((with_reducible refine' m_nsDel D9 ?hs ?hh ?he ?_); (case hs => (repeat (first | exact Spl.here | apply Spl.there))); (case hh => kernel_rfl!); (case he => kernel_rfl!); clear D9; intro hN D9; (try simp only [List.cons_append, List.nil_append] at D9)) | ((with_reducible refine' m_nsGet (rv := none) D9 ?hm ?e ?_); (case hm => (repeat (first | exact List.Mem.head _ | apply List.Mem.tail))); (case e => kernel_rfl!)) | with_reducible refine wpAny_askSetting ?_ | with_reducible refine wpAny_point ?_ | with_reducible refine PyProof.Rows.lt_int ?_ | ((with_reducible refine callWith_F (q := 280) ?fnq ?_); (case fnq => exact ⟨_, _, _, _, lg_KK KX D9 chg0 _ _ (by k_is)⟩)) | ((with_reducible refine' m_nsL (rv := some (.ref ia)) hns ?ee ?_); (case ee => kernel_rfl!)) | ((with_reducible refine' m_nsL (rv := some (.ref ib)) hns ?ee ?_); (case ee => kernel_rfl!)) | ((first | guard_hyp gan | guard_hyp k); with_reducible refine te_in' ?_) | with_reducible refine te_go ?_ | ((first | guard_hyp gan | guard_hyp k); with_reducible refine aq_in ?_) | with_reducible refine aq_go ?_ | with_reducible refine ae_go ?_ | ((first | guard_hyp gan | guard_hyp k); with_reducible refine wpAny_of_eq (by assumption) ?_) | ((first | guard_hyp gan | guard_hyp k); with_reducible refine m_peek KX D9 chg0 (by assumption) ?_) | wp_delta | with_reducible refine wpAny_holding ?_ | with_reducible refine wpAny_standAt ?_ | with_reducible refine wpAny_rule ?_ | with_reducible refine wpAny_fresh' ?_ | ((first | guard_hyp gan | guard_hyp k); with_reducible refine te_in ?_) | ((with_reducible refine' wpAny_load (D9.keep _ _ ?ko nochg) ?_); (case ko => with_reducible first | exact gan | exact gbt | exact gsl | exact gst | exact gI | exact gL | exact gG | exact gE | exact gM | exact gN | exact k.cls | exact k.ns | exact k.dsc | exact k.ini | exact k.lt | exact k.cell | exact gi | exact gj)) | ((with_reducible refine' wpAny_loadPart (D9.keep _ _ ?ko nochg) ?_); (case ko => with_reducible first | exact gan | exact gbt | exact gsl | exact gst | exact gI | exact gL | exact gG | exact gE | exact gM | exact gN | exact k.cls | exact k.ns | exact k.dsc | exact k.ini | exact k.lt | exact k.cell | exact gi | exact gj)) | ((with_reducible refine' m_loadPart D9 ?hm ?_); (case hm => (repeat (first | exact List.Mem.head _ | apply List.Mem.tail)))) | ((with_reducible refine' m_load D9 ?hm ?_); (case hm => (repeat (first | exact List.Mem.head _ | apply List.Mem.tail)))) | ((with_reducible refine' m_alloc D9 ?ho ?_); (case ho => exact rfl); clear D9; intro a hN D9) | ((with_reducible refine' m_updPart D9 ?hp ?hf ?_); (case hp => (repeat (first | exact Put.here | apply Put.there))); (case hf => exact rfl); clear D9; intro hN D9; try dsimp only at D9) | ((with_reducible refine' m_upd D9 ?hp ?hf ?_); (case hp => (repeat (first | exact Put.here | apply Put.there))); (case hf => exact rfl); clear D9; intro hN D9; try dsimp only at D9) | ((with_reducible refine' m_loadC D9 ?hm ?_); (case hm => exact List.Mem.head _)) | ((with_reducible refine' m_loadK KX D9 ?hc ?e ?_); (case hc => first | exact chg0 | exact chg33 _); (case e => k_is)) | ((with_reducible refine' PySem.wpAny_ite_false ?zz ?_); (case zz => kernel_rfl!)) | ((with_reducible refine' PySem.wpAny_ite_true ?zz ?_); (case zz => kernel_rfl!)))
  refine ⟨rfl, ?_⟩
  unfold Hold
  refine exec_hold ?_
  repeat (first | with_reducible refine bq ?_ | with_reducible refine bq_go ?_ | with_reducible refine rv_go ?_ | with_reducible refine fin_done ?_ | with_reducible refine fin_again ?_ | with_reducible refine err_go ?_ | with_reducible refine rv_err ?_ | with_reducible refine wpAny_pure ?_ | with_reducible refine eq_in ?_ | with_reducible refine eq_go ?_ | ((with_reducible refine PySem.wpAny_enterFrame ?hl ?hd ?_); (case hl => exact (TW _ (lg_KK KX D9 (by first | exact chg0 | exact chg33 _))).nolimit); (case hd => exact Nat.le_of_ble_eq_true rfl)) | ((with_reducible refine' m_nsGetK KX D9 ?hc ?e ?_); (case hc => first | exact chg0 | exact chg33 _); (case e => k_is)) | ((with_reducible refine' m_nsSetNew D9 ?hs ?hr ?he ?_); (case hs => (repeat (first | exact Spl.here | apply Spl.there))); (case hr => kernel_rfl!); (case he => (intro hh kt; kernel_rfl!)); clear D9; intro hh kt hN D9; (try simp only [List.cons_append, List.nil_append] at D9)) | ((with_reducible refine' m_nsSetMod D9 ?hs ?hr ?he ?_); (case hs => (repeat (first | exact Spl.here | apply Spl.there))); (case hr => kernel_rfl!); (case he => (intro hh kt; kernel_rfl!)); clear D9; intro hN D9; (try simp only [List.cons_append, List.nil_append] at D9)) | ((with_reducible refine' m_nsDel D9 ?hs ?hh ?he ?_); (case hs => (repeat (first | exact Spl.here | apply Spl.there))); (case hh => kernel_rfl!); (case he => kernel_rfl!); clear D9; intro hN D9; (try simp only [List.cons_append, List.nil_append] at D9)) | ((with_reducible refine' m_nsGet (rv := none) D9 ?hm ?e ?_); (case hm => (repeat (first | exact List.Mem.head _ | apply List.Mem.tail))); (case e => kernel_rfl!)) | with_reducible refine wpAny_askSetting ?_ | with_reducible refine wpAny_point ?_ | with_reducible refine PyProof.Rows.lt_int ?_ | ((with_reducible refine callWith_F (q := 280) ?fnq ?_); (case fnq => exact ⟨_, _, _, _, lg_KK KX D9 chg0 _ _ (by k_is)⟩)) | ((with_reducible refine' m_nsL (rv := some (.ref ia)) hns ?ee ?_); (case ee => kernel_rfl!)) | ((with_reducible refine' m_nsL (rv := some (.ref ib)) hns ?ee ?_); (case ee => kernel_rfl!)) | ((first | guard_hyp gan | guard_hyp k); with_reducible refine te_in' ?_) | with_reducible refine te_go ?_ | ((first | guard_hyp gan | guard_hyp k); with_reducible refine aq_in ?_) | with_reducible refine aq_go ?_ | with_reducible refine ae_go ?_ | ((first | guard_hyp gan | guard_hyp k); with_reducible refine wpAny_of_eq (by assumption) ?_) | ((first | guard_hyp gan | guard_hyp k); with_reducible refine m_peek KX D9 chg0 (by assumption) ?_) | wp_delta | with_reducible refine wpAny_holding ?_ | with_reducible refine wpAny_standAt ?_ | with_reducible refine wpAny_rule ?_ | with_reducible refine wpAny_fresh' ?_ | ((first | guard_hyp gan | guard_hyp k); with_reducible refine te_in ?_) | ((with_reducible refine' wpAny_load (D9.keep _ _ ?ko nochg) ?_); (case ko => with_reducible first | exact gan | exact gbt | exact gsl | exact gst | exact gI | exact gL | exact gG | exact gE | exact gM | exact gN | exact k.cls | exact k.ns | exact k.dsc | exact k.ini | exact k.lt | exact k.cell | exact gi | exact gj)) | ((with_reducible refine' wpAny_loadPart (D9.keep _ _ ?ko nochg) ?_); (case ko => with_reducible first | exact gan | exact gbt | exact gsl | exact gst | exact gI | exact gL | exact gG | exact gE | exact gM | exact gN | exact k.cls | exact k.ns | exact k.dsc | exact k.ini | exact k.lt | exact k.cell | exact gi | exact gj)) | ((with_reducible refine' m_loadPart D9 ?hm ?_); (case hm => (repeat (first | exact List.Mem.head _ | apply List.Mem.tail)))) | ((with_reducible refine' m_load D9 ?hm ?_); (case hm => (repeat (first | exact List.Mem.head _ | apply List.Mem.tail)))) | ((with_reducible refine' m_alloc D9 ?ho ?_); (case ho => exact rfl); clear D9; intro a hN D9) | ((with_reducible refine' m_updPart D9 ?hp ?hf ?_); (case hp => (repeat (first | exact Put.here | apply Put.there))); (case hf => exact rfl); clear D9; intro hN D9; try dsimp only at D9) | ((with_reducible refine' m_upd D9 ?hp ?hf ?_); (case hp => (repeat (first | exact Put.here | apply Put.there))); (case hf => exact rfl); clear D9; intro hN D9; try dsimp only at D9) | ((with_reducible refine' m_loadC D9 ?hm ?_); (case hm => exact List.Mem.head _)) | ((with_reducible refine' m_loadK KX D9 ?hc ?e ?_); (case hc => first | exact chg0 | exact chg33 _); (case e => k_is)) | ((with_reducible refine' PySem.wpAny_ite_false ?zz ?_); (case zz => kernel_rfl!)) | ((with_reducible refine' PySem.wpAny_ite_true ?zz ?_); (case zz => kernel_rfl!)))
  obtain ⟨sl, rfl⟩ : ∃ x, x = a := ⟨a, rfl⟩
  refine ⟨rfl, ?_⟩
  unfold Hold
  refine exec_hold (nestDef_K rfl rfl rfl ?_)
  refine' m_makeFn (clos := []) TW KX D9 (chg33 _) IK hneK ?z1 ?z2 ?z3 ?z4 ?z5 ?z6 ?z7 ?_
  case z1 => repeat (first | exact List.Mem.head _ | apply List.Mem.tail)
  case z2 => repeat (first | exact Spl.here | apply Spl.there)
  case z3 => kernel_rfl!
  case z4 => rfl
  case z5 => rfl
  case z6 => exact trivial
  case z7 => kernel_rfl!
  clear D9
  intro fI cI oI vI tI ctvI docI hN tkI D9 hdI hvI
  (try simp only [List.cons_append, List.nil_append] at D9)
  repeat (first | with_reducible refine bq ?_ | with_reducible refine bq_go ?_ | with_reducible refine rv_go ?_ | with_reducible refine fin_done ?_ | with_reducible refine fin_again ?_ | with_reducible refine err_go ?_ | with_reducible refine rv_err ?_ | with_reducible refine wpAny_pure ?_ | with_reducible refine eq_in ?_ | with_reducible refine eq_go ?_ | ((with_reducible refine PySem.wpAny_enterFrame ?hl ?hd ?_); (case hl => exact (TW _ (lg_KK KX D9 (by first | exact chg0 | exact chg33 _))).nolimit); (case hd => exact Nat.le_of_ble_eq_true rfl)) | ((with_reducible refine' m_nsGetK KX D9 ?hc ?e ?_); (case hc => first | exact chg0 | exact chg33 _); (case e => k_is)) | ((with_reducible refine' m_nsSetNew D9 ?hs ?hr ?he ?_); (case hs => (repeat (first | exact Spl.here | apply Spl.there))); (case hr => kernel_rfl!); (case he => (intro hh kt; kernel_rfl!)); clear D9; intro hh kt hN D9; (try simp only [List.cons_append, List.nil_append] at D9)) | ((with_reducible refine' m_nsSetMod D9 ?hs ?hr ?he ?_); (case hs => (repeat (first | exact Spl.here | apply Spl.there))); (case hr => kernel_rfl!); (case he => (intro hh kt; kernel_rfl!)); clear D9; intro hN D9; (try simp only [List.cons_append, List.nil_append] at D9)) | ((with_reducible refine' m_nsDel D9 ?hs ?hh ?he ?_); (case hs => (repeat (first | exact Spl.here | apply Spl.there))); (case hh => kernel_rfl!); (case he => kernel_rfl!); clear D9; intro hN D9; (try simp only [List.cons_append, List.nil_append] at D9)) | ((with_reducible refine' m_nsGet (rv := none) D9 ?hm ?e ?_); (case hm => (repeat (first | exact List.Mem.head _ | apply List.Mem.tail))); (case e => kernel_rfl!)) | with_reducible refine wpAny_askSetting ?_ | with_reducible refine wpAny_point ?_ | with_reducible refine PyProof.Rows.lt_int ?_ | ((with_reducible refine callWith_F (q := 280) ?fnq ?_); (case fnq => exact ⟨_, _, _, _, lg_KK KX D9 chg0 _ _ (by k_is)⟩)) | ((with_reducible refine' m_nsL (rv := some (.ref ia)) hns ?ee ?_); (case ee => kernel_rfl!)) | ((with_reducible refine' m_nsL (rv := some (.ref ib)) hns ?ee ?_); (case ee => kernel_rfl!)) | ((first | guard_hyp gan | guard_hyp k); with_reducible refine te_in' ?_) | with_reducible refine te_go ?_ | ((first | guard_hyp gan | guard_hyp k); with_reducible refine aq_in ?_) | with_reducible refine aq_go ?_ | with_reducible refine ae_go ?_ | ((first | guard_hyp gan | guard_hyp k); with_reducible refine wpAny_of_eq (by assumption) ?_) | ((first | guard_hyp gan | guard_hyp k); with_reducible refine m_peek KX D9 chg0 (by assumption) ?_) | wp_delta | with_reducible refine wpAny_holding ?_ | with_reducible refine wpAny_standAt ?_ | with_reducible refine wpAny_rule ?_ | with_reducible refine wpAny_fresh' ?_ | ((first | guard_hyp gan | guard_hyp k); with_reducible refine te_in ?_) | ((with_reducible refine' wpAny_load (D9.keep _ _ ?ko nochg) ?_); (case ko => with_reducible first | exact gan | exact gbt | exact gsl | exact gst | exact gI | exact gL | exact gG | exact gE | exact gM | exact gN | exact k.cls | exact k.ns | exact k.dsc | exact k.ini | exact k.lt | exact k.cell | exact gi | exact gj)) | ((with_reducible refine' wpAny_loadPart (D9.keep _ _ ?ko nochg) ?_); (case ko => with_reducible first | exact gan | exact gbt | exact gsl | exact gst | exact gI | exact gL | exact gG | exact gE | exact gM | exact gN | exact k.cls | exact k.ns | exact k.dsc | exact k.ini | exact k.lt | exact k.cell | exact gi | exact gj)) | ((with_reducible refine' m_loadPart D9 ?hm ?_); (case hm => (repeat (first | exact List.Mem.head _ | apply List.Mem.tail)))) | ((with_reducible refine' m_load D9 ?hm ?_); (case hm => (repeat (first | exact List.Mem.head _ | apply List.Mem.tail)))) | ((with_reducible refine' m_alloc D9 ?ho ?_); (case ho => exact rfl); clear D9; intro a hN D9) | ((with_reducible refine' m_updPart D9 ?hp ?hf ?_); (case hp => (repeat (first | exact Put.here | apply Put.there))); (case hf => exact rfl); clear D9; intro hN D9; try dsimp only at D9) | ((with_reducible refine' m_upd D9 ?hp ?hf ?_); (case hp => (repeat (first | exact Put.here | apply Put.there))); (case hf => exact rfl); clear D9; intro hN D9; try dsimp only at D9) | ((with_reducible refine' m_loadC D9 ?hm ?_); (case hm => exact List.Mem.head _)) | ((with_reducible refine' m_loadK KX D9 ?hc ?e ?_); (case hc => first | exact chg0 | exact chg33 _); (case e => k_is)) | ((with_reducible refine' PySem.wpAny_ite_false ?zz ?_); (case zz => kernel_rfl!)) | ((with_reducible refine' PySem.wpAny_ite_true ?zz ?_); (case zz => kernel_rfl!)))
  refine ⟨rfl, ?_⟩
  unfold Hold
  refine exec_hold (nestDef_K rfl rfl rfl ?_)
  refine' m_makeFn (clos := [(Str.ofString "mycmp", aM)]) TW KX D9 (chg33 _) IK hneK ?z1 ?z2 ?z3 ?z4 ?z5 ?z6 ?z7 ?_
  case z1 => repeat (first | exact List.Mem.head _ | apply List.Mem.tail)
  case z2 => repeat (first | exact Spl.here | apply Spl.there)
  case z3 => kernel_rfl!
  case z4 => rfl
  case z5 => rfl
  case z6 => exact trivial
  case z7 => kernel_rfl!
  clear D9
  intro fL cL oL vL tL ctvL docL hN tkL D9 hdL hvL
  (try simp only [List.cons_append, List.nil_append] at D9)
  repeat (first | with_reducible refine bq ?_ | with_reducible refine bq_go ?_ | with_reducible refine rv_go ?_ | with_reducible refine fin_done ?_ | with_reducible refine fin_again ?_ | with_reducible refine err_go ?_ | with_reducible refine rv_err ?_ | with_reducible refine wpAny_pure ?_ | with_reducible refine eq_in ?_ | with_reducible refine eq_go ?_ | ((with_reducible refine PySem.wpAny_enterFrame ?hl ?hd ?_); (case hl => exact (TW _ (lg_KK KX D9 (by first | exact chg0 | exact chg33 _))).nolimit); (case hd => exact Nat.le_of_ble_eq_true rfl)) | ((with_reducible refine' m_nsGetK KX D9 ?hc ?e ?_); (case hc => first | exact chg0 | exact chg33 _); (case e => k_is)) | ((with_reducible refine' m_nsSetNew D9 ?hs ?hr ?he ?_); (case hs => (repeat (first | exact Spl.here | apply Spl.there))); (case hr => kernel_rfl!); (case he => (intro hh kt; kernel_rfl!)); clear D9; intro hh kt hN D9; (try simp only [List.cons_append, List.nil_append] at D9)) | ((with_reducible refine' m_nsSetMod D9 ?hs ?hr ?he ?_); (case hs => (repeat (first | exact Spl.here | apply Spl.there))); (case hr => kernel_rfl!); (case he => (intro hh kt; kernel_rfl!)); clear D9; intro hN D9; (try simp only [List.cons_append, List.nil_append] at D9)) | ((with_reducible refine' m_nsDel D9 ?hs ?hh ?he ?_); (case hs => (repeat (first | exact Spl.here | apply Spl.there))); (case hh => kernel_rfl!); (case he => kernel_rfl!); clear D9; intro hN D9; (try simp only [List.cons_append, List.nil_append] at D9)) | ((with_reducible refine' m_nsGet (rv := none) D9 ?hm ?e ?_); (case hm => (repeat (first | exact List.Mem.head _ | apply List.Mem.tail))); (case e => kernel_rfl!)) | with_reducible refine wpAny_askSetting ?_ | with_reducible refine wpAny_point ?_ | with_reducible refine PyProof.Rows.lt_int ?_ | ((with_reducible refine callWith_F (q := 280) ?fnq ?_); (case fnq => exact ⟨_, _, _, _, lg_KK KX D9 chg0 _ _ (by k_is)⟩)) | ((with_reducible refine' m_nsL (rv := some (.ref ia)) hns ?ee ?_); (case ee => kernel_rfl!)) | ((with_reducible refine' m_nsL (rv := some (.ref ib)) hns ?ee ?_); (case ee => kernel_rfl!)) | ((first | guard_hyp gan | guard_hyp k); with_reducible refine te_in' ?_) | with_reducible refine te_go ?_ | ((first | guard_hyp gan | guard_hyp k); with_reducible refine aq_in ?_) | with_reducible refine aq_go ?_ | with_reducible refine ae_go ?_ | ((first | guard_hyp gan | guard_hyp k); with_reducible refine wpAny_of_eq (by assumption) ?_) | ((first | guard_hyp gan | guard_hyp k); with_reducible refine m_peek KX D9 chg0 (by assumption) ?_) | wp_delta | with_reducible refine wpAny_holding ?_ | with_reducible refine wpAny_standAt ?_ | with_reducible refine wpAny_rule ?_ | with_reducible refine wpAny_fresh' ?_ | ((first | guard_hyp gan | guard_hyp k); with_reducible refine te_in ?_) | ((with_reducible refine' wpAny_load (D9.keep _ _ ?ko nochg) ?_); (case ko => with_reducible first | exact gan | exact gbt | exact gsl | exact gst | exact gI | exact gL | exact gG | exact gE | exact gM | exact gN | exact k.cls | exact k.ns | exact k.dsc | exact k.ini | exact k.lt | exact k.cell | exact gi | exact gj)) | ((with_reducible refine' wpAny_loadPart (D9.keep _ _ ?ko nochg) ?_); (case ko => with_reducible first | exact gan | exact gbt | exact gsl | exact gst | exact gI | exact gL | exact gG | exact gE | exact gM | exact gN | exact k.cls | exact k.ns | exact k.dsc | exact k.ini | exact k.lt | exact k.cell | exact gi | exact gj)) | ((with_reducible refine' m_loadPart D9 ?hm ?_); (case hm => (repeat (first | exact List.Mem.head _ | apply List.Mem.tail)))) | ((with_reducible refine' m_load D9 ?hm ?_); (case hm => (repeat (first | exact List.Mem.head _ | apply List.Mem.tail)))) | ((with_reducible refine' m_alloc D9 ?ho ?_); (case ho => exact rfl); clear D9; intro a hN D9) | ((with_reducible refine' m_updPart D9 ?hp ?hf ?_); (case hp => (repeat (first | exact Put.here | apply Put.there))); (case hf => exact rfl); clear D9; intro hN D9; try dsimp only at D9) | ((with_reducible refine' m_upd D9 ?hp ?hf ?_); (case hp => (repeat (first | exact Put.here | apply Put.there))); (case hf => exact rfl); clear D9; intro hN D9; try dsimp only at D9) | ((with_reducible refine' m_loadC D9 ?hm ?_); (case hm => exact List.Mem.head _)) | ((with_reducible refine' m_loadK KX D9 ?hc ?e ?_); (case hc => first | exact chg0 | exact chg33 _); (case e => k_is)) | ((with_reducible refine' PySem.wpAny_ite_false ?zz ?_); (case zz => kernel_rfl!)) | ((with_reducible refine' PySem.wpAny_ite_true ?zz ?_); (case zz => kernel_rfl!)))
  refine ⟨rfl, ?_⟩
  unfold Hold
  refine exec_hold (nestDef_K rfl rfl rfl ?_)
  refine' m_makeFn (clos := [(Str.ofString "mycmp", aM)]) TW KX D9 (chg33 _) IK hneK ?z1 ?z2 ?z3 ?z4 ?z5 ?z6 ?z7 ?_
  case z1 => repeat (first | exact List.Mem.head _ | apply List.Mem.tail)
  case z2 => repeat (first | exact Spl.here | apply Spl.there)
  case z3 => kernel_rfl!
  case z4 => rfl
  case z5 => rfl
  case z6 => exact trivial
  case z7 => kernel_rfl!
  clear D9
  intro fG cG oG vG tG ctvG docG hN tkG D9 hdG hvG
  (try simp only [List.cons_append, List.nil_append] at D9)
  repeat (first | with_reducible refine bq ?_ | with_reducible refine bq_go ?_ | with_reducible refine rv_go ?_ | with_reducible refine fin_done ?_ | with_reducible refine fin_again ?_ | with_reducible refine err_go ?_ | with_reducible refine rv_err ?_ | with_reducible refine wpAny_pure ?_ | with_reducible refine eq_in ?_ | with_reducible refine eq_go ?_ | ((with_reducible refine PySem.wpAny_enterFrame ?hl ?hd ?_); (case hl => exact (TW _ (lg_KK KX D9 (by first | exact chg0 | exact chg33 _))).nolimit); (case hd => exact Nat.le_of_ble_eq_true rfl)) | ((with_reducible refine' m_nsGetK KX D9 ?hc ?e ?_); (case hc => first | exact chg0 | exact chg33 _); (case e => k_is)) | ((with_reducible refine' m_nsSetNew D9 ?hs ?hr ?he ?_); (case hs => (repeat (first | exact Spl.here | apply Spl.there))); (case hr => kernel_rfl!); (case he => (intro hh kt; kernel_rfl!)); clear D9; intro hh kt hN D9; (try simp only [List.cons_append, List.nil_append] at D9)) | ((with_reducible refine' m_nsSetMod D9 ?hs ?hr ?he ?_); (case hs => (repeat (first | exact Spl.here | apply Spl.there))); (case hr => kernel_rfl!); (case he => (intro hh kt; kernel_rfl!)); clear D9; intro hN D9; (try simp only [List.cons_append, List.nil_append] at D9)) | ((with_reducible refine' m_nsDel D9 ?hs ?hh ?he ?_); (case hs => (repeat (first | exact Spl.here | apply Spl.there))); (case hh => kernel_rfl!); (case he => kernel_rfl!); clear D9; intro hN D9; (try simp only [List.cons_append, List.nil_append] at D9)) | ((with_reducible refine' m_nsGet (rv := none) D9 ?hm ?e ?_); (case hm => (repeat (first | exact List.Mem.head _ | apply List.Mem.tail))); (case e => kernel_rfl!)) | with_reducible refine wpAny_askSetting ?_ | with_reducible refine wpAny_point ?_ | with_reducible refine PyProof.Rows.lt_int ?_ | ((with_reducible refine callWith_F (q := 280) ?fnq ?_); (case fnq => exact ⟨_, _, _, _, lg_KK KX D9 chg0 _ _ (by k_is)⟩)) | ((with_reducible refine' m_nsL (rv := some (.ref ia)) hns ?ee ?_); (case ee => kernel_rfl!)) | ((with_reducible refine' m_nsL (rv := some (.ref ib)) hns ?ee ?_); (case ee => kernel_rfl!)) | ((first | guard_hyp gan | guard_hyp k); with_reducible refine te_in' ?_) | with_reducible refine te_go ?_ | ((first | guard_hyp gan | guard_hyp k); with_reducible refine aq_in ?_) | with_reducible refine aq_go ?_ | with_reducible refine ae_go ?_ | ((first | guard_hyp gan | guard_hyp k); with_reducible refine wpAny_of_eq (by assumption) ?_) | ((first | guard_hyp gan | guard_hyp k); with_reducible refine m_peek KX D9 chg0 (by assumption) ?_) | wp_delta | with_reducible refine wpAny_holding ?_ | with_reducible refine wpAny_standAt ?_ | with_reducible refine wpAny_rule ?_ | with_reducible refine wpAny_fresh' ?_ | ((first | guard_hyp gan | guard_hyp k); with_reducible refine te_in ?_) | ((with_reducible refine' wpAny_load (D9.keep _ _ ?ko nochg) ?_); (case ko => with_reducible first | exact gan | exact gbt | exact gsl | exact gst | exact gI | exact gL | exact gG | exact gE | exact gM | exact gN | exact k.cls | exact k.ns | exact k.dsc | exact k.ini | exact k.lt | exact k.cell | exact gi | exact gj)) | ((with_reducible refine' wpAny_loadPart (D9.keep _ _ ?ko nochg) ?_); (case ko => with_reducible first | exact gan | exact gbt | exact gsl | exact gst | exact gI | exact gL | exact gG | exact gE | exact gM | exact gN | exact k.cls | exact k.ns | exact k.dsc | exact k.ini | exact k.lt | exact k.cell | exact gi | exact gj)) | ((with_reducible refine' m_loadPart D9 ?hm ?_); (case hm => (repeat (first | exact List.Mem.head _ | apply List.Mem.tail)))) | ((with_reducible refine' m_load D9 ?hm ?_); (case hm => (repeat (first | exact List.Mem.head _ | apply List.Mem.tail)))) | ((with_reducible refine' m_alloc D9 ?ho ?_); (case ho => exact rfl); clear D9; intro a hN D9) | ((with_reducible refine' m_updPart D9 ?hp ?hf ?_); (case hp => (repeat (first | exact Put.here | apply Put.there))); (case hf => exact rfl); clear D9; intro hN D9; try dsimp only at D9) | ((with_reducible refine' m_upd D9 ?hp ?hf ?_); (case hp => (repeat (first | exact Put.here | apply Put.there))); (case hf => exact rfl); clear D9; intro hN D9; try dsimp only at D9) | ((with_reducible refine' m_loadC D9 ?hm ?_); (case hm => exact List.Mem.head _)) | ((with_reducible refine' m_loadK KX D9 ?hc ?e ?_); (case hc => first | exact chg0 | exact chg33 _); (case e => k_is)) | ((with_reducible refine' PySem.wpAny_ite_false ?zz ?_); (case zz => kernel_rfl!)) | ((with_reducible refine' PySem.wpAny_ite_true ?zz ?_); (case zz => kernel_rfl!)))
  refine ⟨rfl, ?_⟩
  unfold Hold
  refine exec_hold (nestDef_K rfl rfl rfl ?_)
  refine' m_makeFn (clos := [(Str.ofString "mycmp", aM)]) TW KX D9 (chg33 _) IK hneK ?z1 ?z2 ?z3 ?z4 ?z5 ?z6 ?z7 ?_
  case z1 => repeat (first | exact List.Mem.head _ | apply List.Mem.tail)
  case z2 => repeat (first | exact Spl.here | apply Spl.there)
  case z3 => kernel_rfl!
  case z4 => rfl
  case z5 => rfl
  case z6 => exact trivial
  case z7 => kernel_rfl!
  clear D9
  intro fE cE oE vE tE ctvE docE hN tkE D9 hdE hvE
  (try simp only [List.cons_append, List.nil_append] at D9)
  repeat (first | with_reducible refine bq ?_ | with_reducible refine bq_go ?_ | with_reducible refine rv_go ?_ | with_reducible refine fin_done ?_ | with_reducible refine fin_again ?_ | with_reducible refine err_go ?_ | with_reducible refine rv_err ?_ | with_reducible refine wpAny_pure ?_ | with_reducible refine eq_in ?_ | with_reducible refine eq_go ?_ | ((with_reducible refine PySem.wpAny_enterFrame ?hl ?hd ?_); (case hl => exact (TW _ (lg_KK KX D9 (by first | exact chg0 | exact chg33 _))).nolimit); (case hd => exact Nat.le_of_ble_eq_true rfl)) | ((with_reducible refine' m_nsGetK KX D9 ?hc ?e ?_); (case hc => first | exact chg0 | exact chg33 _); (case e => k_is)) | ((with_reducible refine' m_nsSetNew D9 ?hs ?hr ?he ?_); (case hs => (repeat (first | exact Spl.here | apply Spl.there))); (case hr => kernel_rfl!); (case he => (intro hh kt; kernel_rfl!)); clear D9; intro hh kt hN D9; (try simp only [List.cons_append, List.nil_append] at D9)) | ((with_reducible refine' m_nsSetMod D9 ?hs ?hr ?he ?_); (case hs => (repeat (first | exact Spl.here | apply Spl.there))); (case hr => kernel_rfl!); (case he => (intro hh kt; kernel_rfl!)); clear D9; intro hN D9; (try simp only [List.cons_append, List.nil_append] at D9)) | ((with_reducible refine' m_nsDel D9 ?hs ?hh ?he ?_); (case hs => (repeat (first | exact Spl.here | apply Spl.there))); (case hh => kernel_rfl!); (case he => kernel_rfl!); clear D9; intro hN D9; (try simp only [List.cons_append, List.nil_append] at D9)) | ((with_reducible refine' m_nsGet (rv := none) D9 ?hm ?e ?_); (case hm => (repeat (first | exact List.Mem.head _ | apply List.Mem.tail))); (case e => kernel_rfl!)) | with_reducible refine wpAny_askSetting ?_ | with_reducible refine wpAny_point ?_ | with_reducible refine PyProof.Rows.lt_int ?_ | ((with_reducible refine callWith_F (q := 280) ?fnq ?_); (case fnq => exact ⟨_, _, _, _, lg_KK KX D9 chg0 _ _ (by k_is)⟩)) | ((with_reducible refine' m_nsL (rv := some (.ref ia)) hns ?ee ?_); (case ee => kernel_rfl!)) | ((with_reducible refine' m_nsL (rv := some (.ref ib)) hns ?ee ?_); (case ee => kernel_rfl!)) | ((first | guard_hyp gan | guard_hyp k); with_reducible refine te_in' ?_) | with_reducible refine te_go ?_ | ((first | guard_hyp gan | guard_hyp k); with_reducible refine aq_in ?_) | with_reducible refine aq_go ?_ | with_reducible refine ae_go ?_ | ((first | guard_hyp gan | guard_hyp k); with_reducible refine wpAny_of_eq (by assumption) ?_) | ((first | guard_hyp gan | guard_hyp k); with_reducible refine m_peek KX D9 chg0 (by assumption) ?_) | wp_delta | with_reducible refine wpAny_holding ?_ | with_reducible refine wpAny_standAt ?_ | with_reducible refine wpAny_rule ?_ | with_reducible refine wpAny_fresh' ?_ | ((first | guard_hyp gan | guard_hyp k); with_reducible refine te_in ?_) | ((with_reducible refine' wpAny_load (D9.keep _ _ ?ko nochg) ?_); (case ko => with_reducible first | exact gan | exact gbt | exact gsl | exact gst | exact gI | exact gL | exact gG | exact gE | exact gM | exact gN | exact k.cls | exact k.ns | exact k.dsc | exact k.ini | exact k.lt | exact k.cell | exact gi | exact gj)) | ((with_reducible refine' wpAny_loadPart (D9.keep _ _ ?ko nochg) ?_); (case ko => with_reducible first | exact gan | exact gbt | exact gsl | exact gst | exact gI | exact gL | exact gG | exact gE | exact gM | exact gN | exact k.cls | exact k.ns | exact k.dsc | exact k.ini | exact k.lt | exact k.cell | exact gi | exact gj)) | ((with_reducible refine' m_loadPart D9 ?hm ?_); (case hm => (repeat (first | exact List.Mem.head _ | apply List.Mem.tail)))) | ((with_reducible refine' m_load D9 ?hm ?_); (case hm => (repeat (first | exact List.Mem.head _ | apply List.Mem.tail)))) | ((with_reducible refine' m_alloc D9 ?ho ?_); (case ho => exact rfl); clear D9; intro a hN D9) | ((with_reducible refine' m_updPart D9 ?hp ?hf ?_); (case hp => (repeat (first | exact Put.here | apply Put.there))); (case hf => exact rfl); clear D9; intro hN D9; try dsimp only at D9) | ((with_reducible refine' m_upd D9 ?hp ?hf ?_); (case hp => (repeat (first | exact Put.here | apply Put.there))); (case hf => exact rfl); clear D9; intro hN D9; try dsimp only at D9) | ((with_reducible refine' m_loadC D9 ?hm ?_); (case hm => exact List.Mem.head _)) | ((with_reducible refine' m_loadK KX D9 ?hc ?e ?_); (case hc => first | exact chg0 | exact chg33 _); (case e => k_is)) | ((with_reducible refine' PySem.wpAny_ite_false ?zz ?_); (case zz => kernel_rfl!)) | ((with_reducible refine' PySem.wpAny_ite_true ?zz ?_); (case zz => kernel_rfl!)))
  refine ⟨rfl, ?_⟩
  unfold Hold
  refine exec_hold (nestDef_K rfl rfl rfl ?_)
  refine' m_makeFn (clos := [(Str.ofString "mycmp", aM)]) TW KX D9 (chg33 _) IK hneK ?z1 ?z2 ?z3 ?z4 ?z5 ?z6 ?z7 ?_
  case z1 => repeat (first | exact List.Mem.head _ | apply List.Mem.tail)
  case z2 => repeat (first | exact Spl.here | apply Spl.there)
  case z3 => kernel_rfl!
  case z4 => rfl
  case z5 => rfl
  case z6 => exact trivial
  case z7 => kernel_rfl!
  clear D9
  intro fM cM oM vM tM ctvM docM hN tkM D9 hdM hvM
  (try simp only [List.cons_append, List.nil_append] at D9)
  repeat (first | with_reducible refine bq ?_ | with_reducible refine bq_go ?_ | with_reducible refine rv_go ?_ | with_reducible refine fin_done ?_ | with_reducible refine fin_again ?_ | with_reducible refine err_go ?_ | with_reducible refine rv_err ?_ | with_reducible refine wpAny_pure ?_ | with_reducible refine eq_in ?_ | with_reducible refine eq_go ?_ | ((with_reducible refine PySem.wpAny_enterFrame ?hl ?hd ?_); (case hl => exact (TW _ (lg_KK KX D9 (by first | exact chg0 | exact chg33 _))).nolimit); (case hd => exact Nat.le_of_ble_eq_true rfl)) | ((with_reducible refine' m_nsGetK KX D9 ?hc ?e ?_); (case hc => first | exact chg0 | exact chg33 _); (case e => k_is)) | ((with_reducible refine' m_nsSetNew D9 ?hs ?hr ?he ?_); (case hs => (repeat (first | exact Spl.here | apply Spl.there))); (case hr => kernel_rfl!); (case he => (intro hh kt; kernel_rfl!)); clear D9; intro hh kt hN D9; (try simp only [List.cons_append, List.nil_append] at D9)) | ((with_reducible refine' m_nsSetMod D9 ?hs ?hr ?he ?_); (case hs => (repeat (first | exact Spl.here | apply Spl.there))); (case hr => kernel_rfl!); (case he => (intro hh kt; kernel_rfl!)); clear D9; intro hN D9; (try simp only [List.cons_append, List.nil_append] at D9)) | ((with_reducible refine' m_nsDel D9 ?hs ?hh ?he ?_); (case hs => (repeat (first | exact Spl.here | apply Spl.there))); (case hh => kernel_rfl!); (case he => kernel_rfl!); clear D9; intro hN D9; (try simp only [List.cons_append, List.nil_append] at D9)) | ((with_reducible refine' m_nsGet (rv := none) D9 ?hm ?e ?_); (case hm => (repeat (first | exact List.Mem.head _ | apply List.Mem.tail))); (case e => kernel_rfl!)) | with_reducible refine wpAny_askSetting ?_ | with_reducible refine wpAny_point ?_ | with_reducible refine PyProof.Rows.lt_int ?_ | ((with_reducible refine callWith_F (q := 280) ?fnq ?_); (case fnq => exact ⟨_, _, _, _, lg_KK KX D9 chg0 _ _ (by k_is)⟩)) | ((with_reducible refine' m_nsL (rv := some (.ref ia)) hns ?ee ?_); (case ee => kernel_rfl!)) | ((with_reducible refine' m_nsL (rv := some (.ref ib)) hns ?ee ?_); (case ee => kernel_rfl!)) | ((first | guard_hyp gan | guard_hyp k); with_reducible refine te_in' ?_) | with_reducible refine te_go ?_ | ((first | guard_hyp gan | guard_hyp k); with_reducible refine aq_in ?_) | with_reducible refine aq_go ?_ | with_reducible refine ae_go ?_ | ((first | guard_hyp gan | guard_hyp k); with_reducible refine wpAny_of_eq (by assumption) ?_) | ((first | guard_hyp gan | guard_hyp k); with_reducible refine m_peek KX D9 chg0 (by assumption) ?_) | wp_delta | with_reducible refine wpAny_holding ?_ | with_reducible refine wpAny_standAt ?_ | with_reducible refine wpAny_rule ?_ | with_reducible refine wpAny_fresh' ?_ | ((first | guard_hyp gan | guard_hyp k); with_reducible refine te_in ?_) | ((with_reducible refine' wpAny_load (D9.keep _ _ ?ko nochg) ?_); (case ko => with_reducible first | exact gan | exact gbt | exact gsl | exact gst | exact gI | exact gL | exact gG | exact gE | exact gM | exact gN | exact k.cls | exact k.ns | exact k.dsc | exact k.ini | exact k.lt | exact k.cell | exact gi | exact gj)) | ((with_reducible refine' wpAny_loadPart (D9.keep _ _ ?ko nochg) ?_); (case ko => with_reducible first | exact gan | exact gbt | exact gsl | exact gst | exact gI | exact gL | exact gG | exact gE | exact gM | exact gN | exact k.cls | exact k.ns | exact k.dsc | exact k.ini | exact k.lt | exact k.cell | exact gi | exact gj)) | ((with_reducible refine' m_loadPart D9 ?hm ?_); (case hm => (repeat (first | exact List.Mem.head _ | apply List.Mem.tail)))) | ((with_reducible refine' m_load D9 ?hm ?_); (case hm => (repeat (first | exact List.Mem.head _ | apply List.Mem.tail)))) | ((with_reducible refine' m_alloc D9 ?ho ?_); (case ho => exact rfl); clear D9; intro a hN D9) | ((with_reducible refine' m_updPart D9 ?hp ?hf ?_); (case hp => (repeat (first | exact Put.here | apply Put.there))); (case hf => exact rfl); clear D9; intro hN D9; try dsimp only at D9) | ((with_reducible refine' m_upd D9 ?hp ?hf ?_); (case hp => (repeat (first | exact Put.here | apply Put.there))); (case hf => exact rfl); clear D9; intro hN D9; try dsimp only at D9) | ((with_reducible refine' m_loadC D9 ?hm ?_); (case hm => exact List.Mem.head _)) | ((with_reducible refine' m_loadK KX D9 ?hc ?e ?_); (case hc => first | exact chg0 | exact chg33 _); (case e => k_is)) | ((with_reducible refine' PySem.wpAny_ite_false ?zz ?_); (case zz => kernel_rfl!)) | ((with_reducible refine' PySem.wpAny_ite_true ?zz ?_); (case zz => kernel_rfl!)))
  refine ⟨rfl, ?_⟩
  unfold Hold
  refine exec_hold (nestDef_K rfl rfl rfl ?_)
  refine' m_makeFn (clos := [(Str.ofString "mycmp", aM)]) TW KX D9 (chg33 _) IK hneK ?z1 ?z2 ?z3 ?z4 ?z5 ?z6 ?z7 ?_
  case z1 => repeat (first | exact List.Mem.head _ | apply List.Mem.tail)
  case z2 => repeat (first | exact Spl.here | apply Spl.there)
  case z3 => kernel_rfl!
  case z4 => rfl
  case z5 => rfl
  case z6 => exact trivial
  case z7 => kernel_rfl!
  clear D9
  intro fN cN oN vN tN ctvN docN hN tkN D9 hdN hvN
  (try simp only [List.cons_append, List.nil_append] at D9)
  repeat (first | with_reducible refine bq ?_ | with_reducible refine bq_go ?_ | with_reducible refine rv_go ?_ | with_reducible refine fin_done ?_ | with_reducible refine fin_again ?_ | with_reducible refine err_go ?_ | with_reducible refine rv_err ?_ | with_reducible refine wpAny_pure ?_ | with_reducible refine eq_in ?_ | with_reducible refine eq_go ?_ | ((with_reducible refine PySem.wpAny_enterFrame ?hl ?hd ?_); (case hl => exact (TW _ (lg_KK KX D9 (by first | exact chg0 | exact chg33 _))).nolimit); (case hd => exact Nat.le_of_ble_eq_true rfl)) | ((with_reducible refine' m_nsGetK KX D9 ?hc ?e ?_); (case hc => first | exact chg0 | exact chg33 _); (case e => k_is)) | ((with_reducible refine' m_nsSetNew D9 ?hs ?hr ?he ?_); (case hs => (repeat (first | exact Spl.here | apply Spl.there))); (case hr => kernel_rfl!); (case he => (intro hh kt; kernel_rfl!)); clear D9; intro hh kt hN D9; (try simp only [List.cons_append, List.nil_append] at D9)) | ((with_reducible refine' m_nsSetMod D9 ?hs ?hr ?he ?_); (case hs => (repeat (first | exact Spl.here | apply Spl.there))); (case hr => kernel_rfl!); (case he => (intro hh kt; kernel_rfl!)); clear D9; intro hN D9; (try simp only [List.cons_append, List.nil_append] at D9)) | ((with_reducible refine' m_nsDel D9 ?hs ?hh ?he ?_); (case hs => (repeat (first | exact Spl.here | apply Spl.there))); (case hh => kernel_rfl!); (case he => kernel_rfl!); clear D9; intro hN D9; (try simp only [List.cons_append, List.nil_append] at D9)) | ((with_reducible refine' m_nsGet (rv := none) D9 ?hm ?e ?_); (case hm => (repeat (first | exact List.Mem.head _ | apply List.Mem.tail))); (case e => kernel_rfl!)) | with_reducible refine wpAny_askSetting ?_ | with_reducible refine wpAny_point ?_ | with_reducible refine PyProof.Rows.lt_int ?_ | ((with_reducible refine callWith_F (q := 280) ?fnq ?_); (case fnq => exact ⟨_, _, _, _, lg_KK KX D9 chg0 _ _ (by k_is)⟩)) | ((with_reducible refine' m_nsL (rv := some (.ref ia)) hns ?ee ?_); (case ee => kernel_rfl!)) | ((with_reducible refine' m_nsL (rv := some (.ref ib)) hns ?ee ?_); (case ee => kernel_rfl!)) | ((first | guard_hyp gan | guard_hyp k); with_reducible refine te_in' ?_) | with_reducible refine te_go ?_ | ((first | guard_hyp gan | guard_hyp k); with_reducible refine aq_in ?_) | with_reducible refine aq_go ?_ | with_reducible refine ae_go ?_ | ((first | guard_hyp gan | guard_hyp k); with_reducible refine wpAny_of_eq (by assumption) ?_) | ((first | guard_hyp gan | guard_hyp k); with_reducible refine m_peek KX D9 chg0 (by assumption) ?_) | wp_delta | with_reducible refine wpAny_holding ?_ | with_reducible refine wpAny_standAt ?_ | with_reducible refine wpAny_rule ?_ | with_reducible refine wpAny_fresh' ?_ | ((first | guard_hyp gan | guard_hyp k); with_reducible refine te_in ?_) | ((with_reducible refine' wpAny_load (D9.keep _ _ ?ko nochg) ?_); (case ko => with_reducible first | exact gan | exact gbt | exact gsl | exact gst | exact gI | exact gL | exact gG | exact gE | exact gM | exact gN | exact k.cls | exact k.ns | exact k.dsc | exact k.ini | exact k.lt | exact k.cell | exact gi | exact gj)) | ((with_reducible refine' wpAny_loadPart (D9.keep _ _ ?ko nochg) ?_); (case ko => with_reducible first | exact gan | exact gbt | exact gsl | exact gst | exact gI | exact gL | exact gG | exact gE | exact gM | exact gN | exact k.cls | exact k.ns | exact k.dsc | exact k.ini | exact k.lt | exact k.cell | exact gi | exact gj)) | ((with_reducible refine' m_loadPart D9 ?hm ?_); (case hm => (repeat (first | exact List.Mem.head _ | apply List.Mem.tail)))) | ((with_reducible refine' m_load D9 ?hm ?_); (case hm => (repeat (first | exact List.Mem.head _ | apply List.Mem.tail)))) | ((with_reducible refine' m_alloc D9 ?ho ?_); (case ho => exact rfl); clear D9; intro a hN D9) | ((with_reducible refine' m_updPart D9 ?hp ?hf ?_); (case hp => (repeat (first | exact Put.here | apply Put.there))); (case hf => exact rfl); clear D9; intro hN D9; try dsimp only at D9) | ((with_reducible refine' m_upd D9 ?hp ?hf ?_); (case hp => (repeat (first | exact Put.here | apply Put.there))); (case hf => exact rfl); clear D9; intro hN D9; try dsimp only at D9) | ((with_reducible refine' m_loadC D9 ?hm ?_); (case hm => exact List.Mem.head _)) | ((with_reducible refine' m_loadK KX D9 ?hc ?e ?_); (case hc => first | exact chg0 | exact chg33 _); (case e => k_is)) | ((with_reducible refine' PySem.wpAny_ite_false ?zz ?_); (case zz => kernel_rfl!)) | ((with_reducible refine' PySem.wpAny_ite_true ?zz ?_); (case zz => kernel_rfl!)))
  refine ⟨rfl, ?_⟩
  unfold Hold
  refine exec_hold ?_
  repeat (first | with_reducible refine bq ?_ | with_reducible refine bq_go ?_ | with_reducible refine rv_go ?_ | with_reducible refine fin_done ?_ | with_reducible refine fin_again ?_ | with_reducible refine err_go ?_ | with_reducible refine rv_err ?_ | with_reducible refine wpAny_pure ?_ | with_reducible refine eq_in ?_ | with_reducible refine eq_go ?_ | ((with_reducible refine PySem.wpAny_enterFrame ?hl ?hd ?_); (case hl => exact (TW _ (lg_KK KX D9 (by first | exact chg0 | exact chg33 _))).nolimit); (case hd => exact Nat.le_of_ble_eq_true rfl)) | ((with_reducible refine' m_nsGetK KX D9 ?hc ?e ?_); (case hc => first | exact chg0 | exact chg33 _); (case e => k_is)) | ((with_reducible refine' m_nsSetNew D9 ?hs ?hr ?he ?_); (case hs => (repeat (first | exact Spl.here | apply Spl.there))); (case hr => kernel_rfl!); (case he => (intro hh kt; kernel_rfl!)); clear D9; intro hh kt hN D9; (try simp only [List.cons_append, List.nil_append] at D9)) | ((with_reducible refine' m_nsSetMod D9 ?hs ?hr ?he ?_); (case hs => (repeat (first | exact Spl.here | apply Spl.there))); (case hr => kernel_rfl!); (case he => (intro hh kt; kernel_rfl!)); clear D9; intro hN D9; (try simp only [List.cons_append, List.nil_append] at D9)) | ((with_reducible refine' m_nsDel D9 ?hs ?hh ?he ?_); (case hs => (repeat (first | exact Spl.here | apply Spl.there))); (case hh => kernel_rfl!); (case he => kernel_rfl!); clear D9; intro hN D9; (try simp only [List.cons_append, List.nil_append] at D9)) | ((with_reducible refine' m_nsGet (rv := none) D9 ?hm ?e ?_); (case hm => (repeat (first | exact List.Mem.head _ | apply List.Mem.tail))); (case e => kernel_rfl!)) | with_reducible refine wpAny_askSetting ?_ | with_reducible refine wpAny_point ?_ | with_reducible refine PyProof.Rows.lt_int ?_ | ((with_reducible refine callWith_F (q := 280) ?fnq ?_); (case fnq => exact ⟨_, _, _, _, lg_KK KX D9 chg0 _ _ (by k_is)⟩)) | ((with_reducible refine' m_nsL (rv := some (.ref ia)) hns ?ee ?_); (case ee => kernel_rfl!)) | ((with_reducible refine' m_nsL (rv := some (.ref ib)) hns ?ee ?_); (case ee => kernel_rfl!)) | ((first | guard_hyp gan | guard_hyp k); with_reducible refine te_in' ?_) | with_reducible refine te_go ?_ | ((first | guard_hyp gan | guard_hyp k); with_reducible refine aq_in ?_) | with_reducible refine aq_go ?_ | with_reducible refine ae_go ?_ | ((first | guard_hyp gan | guard_hyp k); with_reducible refine wpAny_of_eq (by assumption) ?_) | ((first | guard_hyp gan | guard_hyp k); with_reducible refine m_peek KX D9 chg0 (by assumption) ?_) | wp_delta | with_reducible refine wpAny_holding ?_ | with_reducible refine wpAny_standAt ?_ | with_reducible refine wpAny_rule ?_ | with_reducible refine wpAny_fresh' ?_ | ((first | guard_hyp gan | guard_hyp k); with_reducible refine te_in ?_) | ((with_reducible refine' wpAny_load (D9.keep _ _ ?ko nochg) ?_); (case ko => with_reducible first | exact gan | exact gbt | exact gsl | exact gst | exact gI | exact gL | exact gG | exact gE | exact gM | exact gN | exact k.cls | exact k.ns | exact k.dsc | exact k.ini | exact k.lt | exact k.cell | exact gi | exact gj)) | ((with_reducible refine' wpAny_loadPart (D9.keep _ _ ?ko nochg) ?_); (case ko => with_reducible first | exact gan | exact gbt | exact gsl | exact gst | exact gI | exact gL | exact gG | exact gE | exact gM | exact gN | exact k.cls | exact k.ns | exact k.dsc | exact k.ini | exact k.lt | exact k.cell | exact gi | exact gj)) | ((with_reducible refine' m_loadPart D9 ?hm ?_); (case hm => (repeat (first | exact List.Mem.head _ | apply List.Mem.tail)))) | ((with_reducible refine' m_load D9 ?hm ?_); (case hm => (repeat (first | exact List.Mem.head _ | apply List.Mem.tail)))) | ((with_reducible refine' m_alloc D9 ?ho ?_); (case ho => exact rfl); clear D9; intro a hN D9) | ((with_reducible refine' m_updPart D9 ?hp ?hf ?_); (case hp => (repeat (first | exact Put.here | apply Put.there))); (case hf => exact rfl); clear D9; intro hN D9; try dsimp only at D9) | ((with_reducible refine' m_upd D9 ?hp ?hf ?_); (case hp => (repeat (first | exact Put.here | apply Put.there))); (case hf => exact rfl); clear D9; intro hN D9; try dsimp only at D9) | ((with_reducible refine' m_loadC D9 ?hm ?_); (case hm => exact List.Mem.head _)) | ((with_reducible refine' m_loadK KX D9 ?hc ?e ?_); (case hc => first | exact chg0 | exact chg33 _); (case e => k_is)) | ((with_reducible refine' PySem.wpAny_ite_false ?zz ?_); (case zz => kernel_rfl!)) | ((with_reducible refine' PySem.wpAny_ite_true ?zz ?_); (case zz => kernel_rfl!)))
  refine ⟨rfl, ?_⟩
  unfold Hold
  refine wpAny_execs_nil ?_
  subst hQB hEB
  dsimp only
  repeat (first | with_reducible refine bq ?_ | with_reducible refine bq_go ?_ | with_reducible refine rv_go ?_ | with_reducible refine fin_done ?_ | with_reducible refine fin_again ?_ | with_reducible refine err_go ?_ | with_reducible refine rv_err ?_ | with_reducible refine wpAny_pure ?_ | with_reducible refine eq_in ?_ | with_reducible refine eq_go ?_ | ((with_reducible refine PySem.wpAny_enterFrame ?hl ?hd ?_); (case hl => exact (TW _ (lg_KK KX D9 (by first | exact chg0 | exact chg33 _))).nolimit); (case hd => exact Nat.le_of_ble_eq_true rfl)) | ((with_reducible refine' m_nsGetK KX D9 ?hc ?e ?_); (case hc => first | exact chg0 | exact chg33 _); (case e => k_is)) | ((with_reducible refine' m_nsSetNew D9 ?hs ?hr ?he ?_); (case hs => (repeat (first | exact Spl.here | apply Spl.there))); (case hr => kernel_rfl!); (case he => (intro hh kt; kernel_rfl!)); clear D9; intro hh kt hN D9; (try simp only [List.cons_append, List.nil_append] at D9)) | ((with_reducible refine' m_nsSetMod D9 ?hs ?hr ?he ?_); (case hs => (repeat (first | exact Spl.here | apply Spl.there))); (case hr => kernel_rfl!); (case he => (intro hh kt; kernel_rfl!)); clear D9; intro hN D9; (try simp only [List.cons_append, List.nil_append] at D9)) | ((with_reducible refine' m_nsDel D9 ?hs ?hh ?he ?_); (case hs => (repeat (first | exact Spl.here | apply Spl.there))); (case hh => kernel_rfl!); (case he => kernel_rfl!); clear D9; intro hN D9; (try simp only [List.cons_append, List.nil_append] at D9)) | ((with_reducible refine' m_nsGet (rv := none) D9 ?hm ?e ?_); (case hm => (repeat (first | exact List.Mem.head _ | apply List.Mem.tail))); (case e => kernel_rfl!)) | with_reducible refine wpAny_askSetting ?_ | with_reducible refine wpAny_point ?_ | with_reducible refine PyProof.Rows.lt_int ?_ | ((with_reducible refine callWith_F (q := 280) ?fnq ?_); (case fnq => exact ⟨_, _, _, _, lg_KK KX D9 chg0 _ _ (by k_is)⟩)) | ((with_reducible refine' m_nsL (rv := some (.ref ia)) hns ?ee ?_); (case ee => kernel_rfl!)) | ((with_reducible refine' m_nsL (rv := some (.ref ib)) hns ?ee ?_); (case ee => kernel_rfl!)) | ((first | guard_hyp gan | guard_hyp k); with_reducible refine te_in' ?_) | with_reducible refine te_go ?_ | ((first | guard_hyp gan | guard_hyp k); with_reducible refine aq_in ?_) | with_reducible refine aq_go ?_ | with_reducible refine ae_go ?_ | ((first | guard_hyp gan | guard_hyp k); with_reducible refine wpAny_of_eq (by assumption) ?_) | ((first | guard_hyp gan | guard_hyp k); with_reducible refine m_peek KX D9 chg0 (by assumption) ?_) | wp_delta | with_reducible refine wpAny_holding ?_ | with_reducible refine wpAny_standAt ?_ | with_reducible refine wpAny_rule ?_ | with_reducible refine wpAny_fresh' ?_ | ((first | guard_hyp gan | guard_hyp k); with_reducible refine te_in ?_) | ((with_reducible refine' wpAny_load (D9.keep _ _ ?ko nochg) ?_); (case ko => with_reducible first | exact gan | exact gbt | exact gsl | exact gst | exact gI | exact gL | exact gG | exact gE | exact gM | exact gN | exact k.cls | exact k.ns | exact k.dsc | exact k.ini | exact k.lt | exact k.cell | exact gi | exact gj)) | ((with_reducible refine' wpAny_loadPart (D9.keep _ _ ?ko nochg) ?_); (case ko => with_reducible first | exact gan | exact gbt | exact gsl | exact gst | exact gI | exact gL | exact gG | exact gE | exact gM | exact gN | exact k.cls | exact k.ns | exact k.dsc | exact k.ini | exact k.lt | exact k.cell | exact gi | exact gj)) | ((with_reducible refine' m_loadPart D9 ?hm ?_); (case hm => (repeat (first | exact List.Mem.head _ | apply List.Mem.tail)))) | ((with_reducible refine' m_load D9 ?hm ?_); (case hm => (repeat (first | exact List.Mem.head _ | apply List.Mem.tail)))) | ((with_reducible refine' m_alloc D9 ?ho ?_); (case ho => exact rfl); clear D9; intro a hN D9) | ((with_reducible refine' m_updPart D9 ?hp ?hf ?_); (case hp => (repeat (first | exact Put.here | apply Put.there))); (case hf => exact rfl); clear D9; intro hN D9; try dsimp only at D9) | ((with_reducible refine' m_upd D9 ?hp ?hf ?_); (case hp => (repeat (first | exact Put.here | apply Put.there))); (case hf => exact rfl); clear D9; intro hN D9; try dsimp only at D9) | ((with_reducible refine' m_loadC D9 ?hm ?_); (case hm => exact List.Mem.head _)) | ((with_reducible refine' m_loadK KX D9 ?hc ?e ?_); (case hc => first | exact chg0 | exact chg33 _); (case e => k_is)) | ((with_reducible refine' PySem.wpAny_ite_false ?zz ?_); (case zz => kernel_rfl!)) | ((with_reducible refine' PySem.wpAny_ite_true ?zz ?_); (case zz => kernel_rfl!)))
  obtain ⟨st, rfl⟩ : ∃ x, x = a := ⟨a, rfl⟩
  generalize hkw : List.filter _ _ = kw0
  have hkw0 : kw0 = [] := by rw [← hkw]; kernel_rfl!
  clear hkw; subst hkw0
  refine wpAny_mono (E := fun _ _ => False) ?_ (fun _ _ h => h) (fun _ _ h => h.elim)
  refine type_c (n := 1) (sl := sl) (st := st) (fI := fI) (fL := fL) (fG := fG) (fE := fE) (fM := fM) (fN := fN) TW (lg_KK KX D9 (chg33 _)) ?ry nsm (D9.nw (bt, _) (by repeat (first | exact List.Mem.head _ | apply List.Mem.tail))).1
    (D9.nw (sl, _) (by repeat (first | exact List.Mem.head _ | apply List.Mem.tail))).1 (D9.nw (st, _) (by repeat (first | exact List.Mem.head _ | apply List.Mem.tail))).1 (D9.nw (fI, _) (by repeat (first | exact List.Mem.head _ | apply List.Mem.tail))).1 (D9.nw (fL, _) (by repeat (first | exact List.Mem.head _ | apply List.Mem.tail))).1 (D9.nw (fG, _) (by repeat (first | exact List.Mem.head _ | apply List.Mem.tail))).1 (D9.nw (fE, _) (by repeat (first | exact List.Mem.head _ | apply List.Mem.tail))).1 (D9.nw (fM, _) (by repeat (first | exact List.Mem.head _ | apply List.Mem.tail))).1 (D9.nw (fN, _) (by repeat (first | exact List.Mem.head _ | apply List.Mem.tail))).1
    (D9.nw (an, _) (by repeat (first | exact List.Mem.head _ | apply List.Mem.tail))).1 ?_
  case ry => exact ⟨rfl, Nat.le_of_ble_eq_true rfl, Nat.le_of_ble_eq_true rfl⟩
  intro aD aK aNs al tD hx hh kx kt hN tkK DK
  replace D9 := D9.join DK
  clear DK
  (try simp only [List.cons_append, List.nil_append] at D9)
  repeat (first | with_reducible refine bq ?_ | with_reducible refine bq_go ?_ | with_reducible refine rv_go ?_ | with_reducible refine fin_done ?_ | with_reducible refine fin_again ?_ | with_reducible refine err_go ?_ | with_reducible refine rv_err ?_ | with_reducible refine wpAny_pure ?_ | with_reducible refine eq_in ?_ | with_reducible refine eq_go ?_ | ((with_reducible refine PySem.wpAny_enterFrame ?hl ?hd ?_); (case hl => exact (TW _ (lg_KK KX D9 (by first | exact chg0 | exact chg33 _))).nolimit); (case hd => exact Nat.le_of_ble_eq_true rfl)) | ((with_reducible refine' m_nsGetK KX D9 ?hc ?e ?_); (case hc => first | exact chg0 | exact chg33 _); (case e => k_is)) | ((with_reducible refine' m_nsSetNew D9 ?hs ?hr ?he ?_); (case hs => (repeat (first | exact Spl.here | apply Spl.there))); (case hr => kernel_rfl!); (case he => (intro hh kt; kernel_rfl!)); clear D9; intro hh kt hN D9; (try simp only [List.cons_append, List.nil_append] at D9)) | ((with_reducible refine' m_nsSetMod D9 ?hs ?hr ?he ?_); (case hs => (repeat (first | exact Spl.here | apply Spl.there))); (case hr => kernel_rfl!); (case he => (intro hh kt; kernel_rfl!)); clear D9; intro hN D9; (try simp only [List.cons_append, List.nil_append] at D9)) | ((with_reducible refine' m_nsDel D9 ?hs ?hh ?he ?_); (case hs => (repeat (first | exact Spl.here | apply Spl.there))); (case hh => kernel_rfl!); (case he => kernel_rfl!); clear D9; intro hN D9; (try simp only [List.cons_append, List.nil_append] at D9)) | ((with_reducible refine' m_nsGet (rv := none) D9 ?hm ?e ?_); (case hm => (repeat (first | exact List.Mem.head _ | apply List.Mem.tail))); (case e => kernel_rfl!)) | with_reducible refine wpAny_askSetting ?_ | with_reducible refine wpAny_point ?_ | with_reducible refine PyProof.Rows.lt_int ?_ | ((with_reducible refine callWith_F (q := 280) ?fnq ?_); (case fnq => exact ⟨_, _, _, _, lg_KK KX D9 chg0 _ _ (by k_is)⟩)) | ((with_reducible refine' m_nsL (rv := some (.ref ia)) hns ?ee ?_); (case ee => kernel_rfl!)) | ((with_reducible refine' m_nsL (rv := some (.ref ib)) hns ?ee ?_); (case ee => kernel_rfl!)) | ((first | guard_hyp gan | guard_hyp k); with_reducible refine te_in' ?_) | with_reducible refine te_go ?_ | ((first | guard_hyp gan | guard_hyp k); with_reducible refine aq_in ?_) | with_reducible refine aq_go ?_ | with_reducible refine ae_go ?_ | ((first | guard_hyp gan | guard_hyp k); with_reducible refine wpAny_of_eq (by assumption) ?_) | ((first | guard_hyp gan | guard_hyp k); with_reducible refine m_peek KX D9 chg0 (by assumption) ?_) | wp_delta | with_reducible refine wpAny_holding ?_ | with_reducible refine wpAny_standAt ?_ | with_reducible refine wpAny_rule ?_ | with_reducible refine wpAny_fresh' ?_ | ((first | guard_hyp gan | guard_hyp k); with_reducible refine te_in ?_) | ((with_reducible refine' wpAny_load (D9.keep _ _ ?ko nochg) ?_); (case ko => with_reducible first | exact gan | exact gbt | exact gsl | exact gst | exact gI | exact gL | exact gG | exact gE | exact gM | exact gN | exact k.cls | exact k.ns | exact k.dsc | exact k.ini | exact k.lt | exact k.cell | exact gi | exact gj)) | ((with_reducible refine' wpAny_loadPart (D9.keep _ _ ?ko nochg) ?_); (case ko => with_reducible first | exact gan | exact gbt | exact gsl | exact gst | exact gI | exact gL | exact gG | exact gE | exact gM | exact gN | exact k.cls | exact k.ns | exact k.dsc | exact k.ini | exact k.lt | exact k.cell | exact gi | exact gj)) | ((with_reducible refine' m_loadPart D9 ?hm ?_); (case hm => (repeat (first | exact List.Mem.head _ | apply List.Mem.tail)))) | ((with_reducible refine' m_load D9 ?hm ?_); (case hm => (repeat (first | exact List.Mem.head _ | apply List.Mem.tail)))) | ((with_reducible refine' m_alloc D9 ?ho ?_); (case ho => exact rfl); clear D9; intro a hN D9) | ((with_reducible refine' m_updPart D9 ?hp ?hf ?_); (case hp => (repeat (first | exact Put.here | apply Put.there))); (case hf => exact rfl); clear D9; intro hN D9; try dsimp only at D9) | ((with_reducible refine' m_upd D9 ?hp ?hf ?_); (case hp => (repeat (first | exact Put.here | apply Put.there))); (case hf => exact rfl); clear D9; intro hN D9; try dsimp only at D9) | ((with_reducible refine' m_loadC D9 ?hm ?_); (case hm => exact List.Mem.head _)) | ((with_reducible refine' m_loadK KX D9 ?hc ?e ?_); (case hc => first | exact chg0 | exact chg33 _); (case e => k_is)) | ((with_reducible refine' PySem.wpAny_ite_false ?zz ?_); (case zz => kernel_rfl!)) | ((with_reducible refine' PySem.wpAny_ite_true ?zz ?_); (case zz => kernel_rfl!)))
  refine ⟨rfl, ?_⟩
  (try unfold Hold)
  repeat (first | with_reducible refine bq ?_ | with_reducible refine bq_go ?_ | with_reducible refine rv_go ?_ | with_reducible refine fin_done ?_ | with_reducible refine fin_again ?_ | with_reducible refine err_go ?_ | with_reducible refine rv_err ?_ | with_reducible refine wpAny_pure ?_ | with_reducible refine eq_in ?_ | with_reducible refine eq_go ?_ | ((with_reducible refine PySem.wpAny_enterFrame ?hl ?hd ?_); (case hl => exact (TW _ (lg_KK KX D9 (by first | exact chg0 | exact chg33 _))).nolimit); (case hd => exact Nat.le_of_ble_eq_true rfl)) | ((with_reducible refine' m_nsGetK KX D9 ?hc ?e ?_); (case hc => first | exact chg0 | exact chg33 _); (case e => k_is)) | ((with_reducible refine' m_nsSetNew D9 ?hs ?hr ?he ?_); (case hs => (repeat (first | exact Spl.here | apply Spl.there))); (case hr => kernel_rfl!); (case he => (intro hh kt; kernel_rfl!)); clear D9; intro hh kt hN D9; (try simp only [List.cons_append, List.nil_append] at D9)) | ((with_reducible refine' m_nsSetMod D9 ?hs ?hr ?he ?_); (case hs => (repeat (first | exact Spl.here | apply Spl.there))); (case hr => kernel_rfl!); (case he => (intro hh kt; kernel_rfl!)); clear D9; intro hN D9; (try simp only [List.cons_append, List.nil_append] at D9)) | ((with_reducible refine' m_nsDel D9 ?hs ?hh ?he ?_); (case hs => (repeat (first | exact Spl.here | apply Spl.there))); (case hh => kernel_rfl!); (case he => kernel_rfl!); clear D9; intro hN D9; (try simp only [List.cons_append, List.nil_append] at D9)) | ((with_reducible refine' m_nsGet (rv := none) D9 ?hm ?e ?_); (case hm => (repeat (first | exact List.Mem.head _ | apply List.Mem.tail))); (case e => kernel_rfl!)) | with_reducible refine wpAny_askSetting ?_ | with_reducible refine wpAny_point ?_ | with_reducible refine PyProof.Rows.lt_int ?_ | ((with_reducible refine callWith_F (q := 280) ?fnq ?_); (case fnq => exact ⟨_, _, _, _, lg_KK KX D9 chg0 _ _ (by k_is)⟩)) | ((with_reducible refine' m_nsL (rv := some (.ref ia)) hns ?ee ?_); (case ee => kernel_rfl!)) | ((with_reducible refine' m_nsL (rv := some (.ref ib)) hns ?ee ?_); (case ee => kernel_rfl!)) | ((first | guard_hyp gan | guard_hyp k); with_reducible refine te_in' ?_) | with_reducible refine te_go ?_ | ((first | guard_hyp gan | guard_hyp k); with_reducible refine aq_in ?_) | with_reducible refine aq_go ?_ | with_reducible refine ae_go ?_ | ((first | guard_hyp gan | guard_hyp k); with_reducible refine wpAny_of_eq (by assumption) ?_) | ((first | guard_hyp gan | guard_hyp k); with_reducible refine m_peek KX D9 chg0 (by assumption) ?_) | wp_delta | with_reducible refine wpAny_holding ?_ | with_reducible refine wpAny_standAt ?_ | with_reducible refine wpAny_rule ?_ | with_reducible refine wpAny_fresh' ?_ | ((first | guard_hyp gan | guard_hyp k); with_reducible refine te_in ?_) | ((with_reducible refine' wpAny_load (D9.keep _ _ ?ko nochg) ?_); (case ko => with_reducible first | exact gan | exact gbt | exact gsl | exact gst | exact gI | exact gL | exact gG | exact gE | exact gM | exact gN | exact k.cls | exact k.ns | exact k.dsc | exact k.ini | exact k.lt | exact k.cell | exact gi | exact gj)) | ((with_reducible refine' wpAny_loadPart (D9.keep _ _ ?ko nochg) ?_); (case ko => with_reducible first | exact gan | exact gbt | exact gsl | exact gst | exact gI | exact gL | exact gG | exact gE | exact gM | exact gN | exact k.cls | exact k.ns | exact k.dsc | exact k.ini | exact k.lt | exact k.cell | exact gi | exact gj)) | ((with_reducible refine' m_loadPart D9 ?hm ?_); (case hm => (repeat (first | exact List.Mem.head _ | apply List.Mem.tail)))) | ((with_reducible refine' m_load D9 ?hm ?_); (case hm => (repeat (first | exact List.Mem.head _ | apply List.Mem.tail)))) | ((with_reducible refine' m_alloc D9 ?ho ?_); (case ho => exact rfl); clear D9; intro a hN D9) | ((with_reducible refine' m_updPart D9 ?hp ?hf ?_); (case hp => (repeat (first | exact Put.here | apply Put.there))); (case hf => exact rfl); clear D9; intro hN D9; try dsimp only at D9) | ((with_reducible refine' m_upd D9 ?hp ?hf ?_); (case hp => (repeat (first | exact Put.here | apply Put.there))); (case hf => exact rfl); clear D9; intro hN D9; try dsimp only at D9) | ((with_reducible refine' m_loadC D9 ?hm ?_); (case hm => exact List.Mem.head _)) | ((with_reducible refine' m_loadK KX D9 ?hc ?e ?_); (case hc => first | exact chg0 | exact chg33 _); (case e => k_is)) | ((with_reducible refine' PySem.wpAny_ite_false ?zz ?_); (case zz => kernel_rfl!)) | ((with_reducible refine' PySem.wpAny_ite_true ?zz ?_); (case zz => kernel_rfl!)))
  dsimp only
  exact hQ aK (KDat.mk aD aNs aM bt fI cI fL cL sl st fG fE fM fN _ _ _ _ _ _ _ _ _ _ _ _ _ _ _ _ _ _ _ _ _ _ _ _ _ _ _ _ _ _ _ _ _ _ _ _ _ _ _ _ _ _ _ _ _ _ _ _ _ _ _ _ _ _) hN _ _ _ (fun b o n e => D9.keep b o e (fun p hp q => n (by rw [List.mem_singleton.mp hp] at q; exact q.symm))) (D9.ch _ (List.Mem.head _)).1 D9.nw (fun h'' hh => ⟨(hh (aK, _) (by repeat (first | exact List.Mem.head _ | apply List.Mem.tail))), (hh (aNs, _) (by repeat (first | exact List.Mem.head _ | apply List.Mem.tail))), (hh (aD, _) (by repeat (first | exact List.Mem.head _ | apply List.Mem.tail))), (hh (fI, _) (by repeat (first | exact List.Mem.head _ | apply List.Mem.tail))), ⟨cI, oI, vI, tI, rfl, (hh (cI, _) (by repeat (first | exact List.Mem.head _ | apply List.Mem.tail))), hdI, hvI⟩, (hh (fL, _) (by repeat (first | exact List.Mem.head _ | apply List.Mem.tail))), ⟨cL, oL, vL, tL, rfl, (hh (cL, _) (by repeat (first | exact List.Mem.head _ | apply List.Mem.tail))), hdL, hvL⟩, (hh (aM, _) (by repeat (first | exact List.Mem.head _ | apply List.Mem.tail)))⟩)
theorem m_tlObj {prog : Program} {w : World} {A : Around} {E : Value → Shared → Prop} {h : Heap} {g : Array GenState} {d : Drawn} {t : Nat} {os : OsState} {aK : Addr} {x : KDat} {name : Str} {rv : Option Value} {Q : Option Value → Shared → Prop} (k : KOk h aK x) (e : nsLook name (dObj (.type "dict") none #[] x.es 3) = pure none) (ho : classOwn (.type "object") name = pure rv) (q : Q rv ⟨h, g, d, t, os⟩) :
    wpAny (model prog w) A (typeLookup (.ref aK) name) Q E ⟨h, g, d, t, os⟩ := by
  unfold typeLookup
  refine wpAny_bind (wpAny_bind (wpAny_bind (wpAny_load k.cls (wpAny_pure (wpAny_pure ?_)))))
  refine wpAny_bind ?_
  show wpAny _ _ (forIn [Value.ref aK, Value.type "object"] _ _) _ _ _
  rw [List.forIn_cons]
  refine wpAny_bind (wpAny_bind (wpAny_bind (wpAny_bind (wpAny_load k.cls (wpAny_pure (wpAny_bind (wpAny_loadPart k.ns (wpAny_of_eq e ?_))))))))
  refine wpAny_pure ?_
  show wpAny _ _ (forIn [Value.type "object"] _ _) _ _ _
  rw [List.forIn_cons]
  refine wpAny_bind (wpAny_bind (wpAny_of_eq ho ?_))
  cases rv with
  | none => exact wpAny_pure (by show wpAny _ _ (forIn [] _ _) _ _ _; rw [List.forIn_nil]; exact wpAny_pure (wpAny_pure q))
  | some v => exact wpAny_pure (wpAny_pure (wpAny_pure q))
theorem m_tlOwn {prog : Program} {w : World} {A : Around} {E : Value → Shared → Prop} {h : Heap} {g : Array GenState} {d : Drawn} {t : Nat} {os : OsState} {aK : Addr} {x : KDat} {name : Str} {v : Value} {Q : Option Value → Shared → Prop} (k : KOk h aK x) (e : nsLook name (dObj (.type "dict") none #[] x.es 3) = pure (some v)) (q : Q (some v) ⟨h, g, d, t, os⟩) :
    wpAny (model prog w) A (typeLookup (.ref aK) name) Q E ⟨h, g, d, t, os⟩ := by
  unfold typeLookup
  refine wpAny_bind (wpAny_bind (wpAny_bind (wpAny_load k.cls (wpAny_pure (wpAny_pure ?_)))))
  refine wpAny_bind ?_
  show wpAny _ _ (forIn [Value.ref aK, Value.type "object"] _ _) _ _ _
  rw [List.forIn_cons]
  refine wpAny_bind (wpAny_bind (wpAny_bind (wpAny_bind (wpAny_load k.cls (wpAny_pure (wpAny_bind (wpAny_loadPart k.ns (wpAny_of_eq e ?_))))))))
  exact wpAny_pure (wpAny_pure (wpAny_pure q))
theorem lt_spec {prog : Program} {w : World} {A : Around} {E : Value → Shared → Prop} {h : Heap} {g : Array GenState} {d : Drawn} {t : Nat} {os : OsState} {aK ia : Addr} {x : KDat} {r : Value} {Q : Option Value → Shared → Prop} (k : KOk h aK x) (Ia : InstK h aK ia r) (q : Q (some (.ref x.fL)) ⟨h, g, d, t, os⟩) :
    wpAny (model prog w) A (specialOf (.ref ia) (Str.ofString "__lt__")) Q E ⟨h, g, d, t, os⟩ := by
  obtain ⟨oa, ga, ca, da, sa⟩ := Ia
  obtain ⟨_, dxa, _, _⟩ := oa
  dsimp only at ca da sa
  subst ca da sa
  unfold specialOf
  exact wpAny_bind (wpAny_typeOf_ref ga (m_tlOwn (name := Str.ofString "__lt__") k (by kernel_rfl!) q))
theorem m_nsL {prog : Program} {w : World} {A : Around} {E : Value → Shared → Prop} {h : Heap} {g : Array GenState} {d : Drawn} {t : Nat} {os : OsState} {L : Addr} {m : Str → Option Value} {name : Str} {rv : Option Value} {Q : Option Value → Shared → Prop} (hn : h.Ns L m) (e : m name = rv) (q : Q rv ⟨h, g, d, t, os⟩) : wpAny (model prog w) A (nsGet L name) Q E ⟨h, g, d, t, os⟩ := wpAny_nsGet hn (by rw [e]; exact q)
theorem slot_c {w : World} {A : Around} {Q E : Value → Shared → Prop} {h : Heap} {g : Array GenState} {d : Drawn} {t : Nat} {os : OsState} {aK ia : Addr} {x : KDat} {r : Value} {dx : Option Addr} {tk : Tok} (KX : (KK w.params).In h) (k : KOk h aK x)
    (gi : h.get? ia = some { cls := .ref aK, dict := dx, data := .plain, slots := #[some r] }) (hQ : ∀ tk', Q r ⟨h, g, d, tk', os⟩) :
    wpAny (model PW w) A (runValue (.builtin "proto.getattr_hooked" ⟨[.ref ia, .str (Str.ofString "obj") tk], []⟩)) Q E ⟨h, g, d, t, os⟩ := by
  have D9 := Lg.start h
  refine run_q (builtin_q F.plainObj_entry_getattr_hooked ?_)
  unfold Builtin.«proto.getattr_hooked»
  repeat (first | with_reducible refine bq ?_ | with_reducible refine bq_go ?_ | with_reducible refine rv_go ?_ | with_reducible refine fin_done ?_ | with_reducible refine fin_again ?_ | with_reducible refine err_go ?_ | with_reducible refine rv_err ?_ | with_reducible refine wpAny_pure ?_ | with_reducible refine eq_in ?_ | with_reducible refine eq_go ?_ | ((with_reducible refine PySem.wpAny_enterFrame ?hl ?hd ?_); (case hl => exact (TW _ (lg_KK KX D9 (by first | exact chg0 | exact chg33 _))).nolimit); (case hd => exact Nat.le_of_ble_eq_true rfl)) | ((with_reducible refine' m_nsGetK KX D9 ?hc ?e ?_); (case hc => first | exact chg0 | exact chg33 _); (case e => k_is)) | ((with_reducible refine' m_nsSetNew D9 ?hs ?hr ?he ?_); (case hs => (repeat (first | exact Spl.here | apply Spl.there))); (case hr => kernel_rfl!); (case he => (intro hh kt; kernel_rfl!)); clear D9; intro hh kt hN D9; (try simp only [List.cons_append, List.nil_append] at D9)) | ((with_reducible refine' m_nsSetMod D9 ?hs ?hr ?he ?_); (case hs => (repeat (first | exact Spl.here | apply Spl.there))); (case hr => kernel_rfl!); (case he => (intro hh kt; kernel_rfl!)); clear D9; intro hN D9; (try simp only [List.cons_append, List.nil_append] at D9)) | ((with_reducible refine' m_nsDel D9 ?hs ?hh ?he ?_); (case hs => (repeat (first | exact Spl.here | apply Spl.there))); (case hh => kernel_rfl!); (case he => kernel_rfl!); clear D9; intro hN D9; (try simp only [List.cons_append, List.nil_append] at D9)) | ((with_reducible refine' m_nsGet (rv := none) D9 ?hm ?e ?_); (case hm => (repeat (first | exact List.Mem.head _ | apply List.Mem.tail))); (case e => kernel_rfl!)) | with_reducible refine wpAny_askSetting ?_ | with_reducible refine wpAny_point ?_ | with_reducible refine PyProof.Rows.lt_int ?_ | ((with_reducible refine callWith_F (q := 280) ?fnq ?_); (case fnq => exact ⟨_, _, _, _, lg_KK KX D9 chg0 _ _ (by k_is)⟩)) | ((with_reducible refine' m_nsL (rv := some (.ref ia)) hns ?ee ?_); (case ee => kernel_rfl!)) | ((with_reducible refine' m_nsL (rv := some (.ref ib)) hns ?ee ?_); (case ee => kernel_rfl!)) | ((first | guard_hyp gan | guard_hyp k); with_reducible refine te_in' ?_) | with_reducible refine te_go ?_ | ((first | guard_hyp gan | guard_hyp k); with_reducible refine aq_in ?_) | with_reducible refine aq_go ?_ | with_reducible refine ae_go ?_ | ((first | guard_hyp gan | guard_hyp k); with_reducible refine wpAny_of_eq (by assumption) ?_) | ((first | guard_hyp gan | guard_hyp k); with_reducible refine m_peek KX D9 chg0 (by assumption) ?_) | wp_delta | with_reducible refine wpAny_holding ?_ | with_reducible refine wpAny_standAt ?_ | with_reducible refine wpAny_rule ?_ | with_reducible refine wpAny_fresh' ?_ | ((first | guard_hyp gan | guard_hyp k); with_reducible refine te_in ?_) | ((with_reducible refine' wpAny_load (D9.keep _ _ ?ko nochg) ?_); (case ko => with_reducible first | exact gan | exact gbt | exact gsl | exact gst | exact gI | exact gL | exact gG | exact gE | exact gM | exact gN | exact k.cls | exact k.ns | exact k.dsc | exact k.ini | exact k.lt | exact k.cell | exact gi | exact gj)) | ((with_reducible refine' wpAny_loadPart (D9.keep _ _ ?ko nochg) ?_); (case ko => with_reducible first | exact gan | exact gbt | exact gsl | exact gst | exact gI | exact gL | exact gG | exact gE | exact gM | exact gN | exact k.cls | exact k.ns | exact k.dsc | exact k.ini | exact k.lt | exact k.cell | exact gi | exact gj)) | ((with_reducible refine' m_loadPart D9 ?hm ?_); (case hm => (repeat (first | exact List.Mem.head _ | apply List.Mem.tail)))) | ((with_reducible refine' m_load D9 ?hm ?_); (case hm => (repeat (first | exact List.Mem.head _ | apply List.Mem.tail)))) | ((with_reducible refine' m_alloc D9 ?ho ?_); (case ho => exact rfl); clear D9; intro a hN D9) | ((with_reducible refine' m_updPart D9 ?hp ?hf ?_); (case hp => (repeat (first | exact Put.here | apply Put.there))); (case hf => exact rfl); clear D9; intro hN D9; try dsimp only at D9) | ((with_reducible refine' m_upd D9 ?hp ?hf ?_); (case hp => (repeat (first | exact Put.here | apply Put.there))); (case hf => exact rfl); clear D9; intro hN D9; try dsimp only at D9) | ((with_reducible refine' m_loadC D9 ?hm ?_); (case hm => exact List.Mem.head _)) | ((with_reducible refine' m_loadK KX D9 ?hc ?e ?_); (case hc => first | exact chg0 | exact chg33 _); (case e => k_is)) | ((with_reducible refine' PySem.wpAny_ite_false ?zz ?_); (case zz => kernel_rfl!)) | ((with_reducible refine' PySem.wpAny_ite_true ?zz ?_); (case zz => kernel_rfl!)))
  dsimp only
  refine m_tlOwn (name := Str.ofString "obj") (v := .ref x.aD) k (by kernel_rfl!) ?_
  have hgt : classOwn (.type "object") "__getattr__" = pure none := by show pure (builtinOwn _ _) = _; rw [builtinOwn_eq_fast]; kernel_rfl
  have mg := KF.slot_mem.lookup
  have ms : typeLookup (.type "member_descriptor") "__set__" = pure (some (.builtin "member_descriptor.__set__")) := by rw [typeLookup_type, builtinLookup_eq_fast]; kernel_rfl
  repeat (first | with_reducible refine bq ?_ | with_reducible refine bq_go ?_ | with_reducible refine rv_go ?_ | with_reducible refine fin_done ?_ | with_reducible refine fin_again ?_ | with_reducible refine err_go ?_ | with_reducible refine rv_err ?_ | with_reducible refine wpAny_pure ?_ | with_reducible refine eq_in ?_ | with_reducible refine eq_go ?_ | ((with_reducible refine PySem.wpAny_enterFrame ?hl ?hd ?_); (case hl => exact (TW _ (lg_KK KX D9 (by first | exact chg0 | exact chg33 _))).nolimit); (case hd => exact Nat.le_of_ble_eq_true rfl)) | ((with_reducible refine' m_nsGetK KX D9 ?hc ?e ?_); (case hc => first | exact chg0 | exact chg33 _); (case e => k_is)) | ((with_reducible refine' m_nsSetNew D9 ?hs ?hr ?he ?_); (case hs => (repeat (first | exact Spl.here | apply Spl.there))); (case hr => kernel_rfl!); (case he => (intro hh kt; kernel_rfl!)); clear D9; intro hh kt hN D9; (try simp only [List.cons_append, List.nil_append] at D9)) | ((with_reducible refine' m_nsSetMod D9 ?hs ?hr ?he ?_); (case hs => (repeat (first | exact Spl.here | apply Spl.there))); (case hr => kernel_rfl!); (case he => (intro hh kt; kernel_rfl!)); clear D9; intro hN D9; (try simp only [List.cons_append, List.nil_append] at D9)) | ((with_reducible refine' m_nsDel D9 ?hs ?hh ?he ?_); (case hs => (repeat (first | exact Spl.here | apply Spl.there))); (case hh => kernel_rfl!); (case he => kernel_rfl!); clear D9; intro hN D9; (try simp only [List.cons_append, List.nil_append] at D9)) | ((with_reducible refine' m_nsGet (rv := none) D9 ?hm ?e ?_); (case hm => (repeat (first | exact List.Mem.head _ | apply List.Mem.tail))); (case e => kernel_rfl!)) | with_reducible refine wpAny_askSetting ?_ | with_reducible refine wpAny_point ?_ | with_reducible refine PyProof.Rows.lt_int ?_ | ((with_reducible refine callWith_F (q := 280) ?fnq ?_); (case fnq => exact ⟨_, _, _, _, lg_KK KX D9 chg0 _ _ (by k_is)⟩)) | ((with_reducible refine' m_nsL (rv := some (.ref ia)) hns ?ee ?_); (case ee => kernel_rfl!)) | ((with_reducible refine' m_nsL (rv := some (.ref ib)) hns ?ee ?_); (case ee => kernel_rfl!)) | ((first | guard_hyp gan | guard_hyp k); with_reducible refine te_in' ?_) | with_reducible refine te_go ?_ | ((first | guard_hyp gan | guard_hyp k); with_reducible refine aq_in ?_) | with_reducible refine aq_go ?_ | with_reducible refine ae_go ?_ | ((first | guard_hyp gan | guard_hyp k); with_reducible refine wpAny_of_eq (by assumption) ?_) | ((first | guard_hyp gan | guard_hyp k); with_reducible refine m_peek KX D9 chg0 (by assumption) ?_) | wp_delta | with_reducible refine wpAny_holding ?_ | with_reducible refine wpAny_standAt ?_ | with_reducible refine wpAny_rule ?_ | with_reducible refine wpAny_fresh' ?_ | ((first | guard_hyp gan | guard_hyp k); with_reducible refine te_in ?_) | ((with_reducible refine' wpAny_load (D9.keep _ _ ?ko nochg) ?_); (case ko => with_reducible first | exact gan | exact gbt | exact gsl | exact gst | exact gI | exact gL | exact gG | exact gE | exact gM | exact gN | exact k.cls | exact k.ns | exact k.dsc | exact k.ini | exact k.lt | exact k.cell | exact gi | exact gj)) | ((with_reducible refine' wpAny_loadPart (D9.keep _ _ ?ko nochg) ?_); (case ko => with_reducible first | exact gan | exact gbt | exact gsl | exact gst | exact gI | exact gL | exact gG | exact gE | exact gM | exact gN | exact k.cls | exact k.ns | exact k.dsc | exact k.ini | exact k.lt | exact k.cell | exact gi | exact gj)) | ((with_reducible refine' m_loadPart D9 ?hm ?_); (case hm => (repeat (first | exact List.Mem.head _ | apply List.Mem.tail)))) | ((with_reducible refine' m_load D9 ?hm ?_); (case hm => (repeat (first | exact List.Mem.head _ | apply List.Mem.tail)))) | ((with_reducible refine' m_alloc D9 ?ho ?_); (case ho => exact rfl); clear D9; intro a hN D9) | ((with_reducible refine' m_updPart D9 ?hp ?hf ?_); (case hp => (repeat (first | exact Put.here | apply Put.there))); (case hf => exact rfl); clear D9; intro hN D9; try dsimp only at D9) | ((with_reducible refine' m_upd D9 ?hp ?hf ?_); (case hp => (repeat (first | exact Put.here | apply Put.there))); (case hf => exact rfl); clear D9; intro hN D9; try dsimp only at D9) | ((with_reducible refine' m_loadC D9 ?hm ?_); (case hm => exact List.Mem.head _)) | ((with_reducible refine' m_loadK KX D9 ?hc ?e ?_); (case hc => first | exact chg0 | exact chg33 _); (case e => k_is)) | ((with_reducible refine' PySem.wpAny_ite_false ?zz ?_); (case zz => kernel_rfl!)) | ((with_reducible refine' PySem.wpAny_ite_true ?zz ?_); (case zz => kernel_rfl!)))
  refine m_tlObj k (by kernel_rfl!) hgt ?_
  repeat (first | with_reducible refine bq ?_ | with_reducible refine bq_go ?_ | with_reducible refine rv_go ?_ | with_reducible refine fin_done ?_ | with_reducible refine fin_again ?_ | with_reducible refine err_go ?_ | with_reducible refine rv_err ?_ | with_reducible refine wpAny_pure ?_ | with_reducible refine eq_in ?_ | with_reducible refine eq_go ?_ | ((with_reducible refine PySem.wpAny_enterFrame ?hl ?hd ?_); (case hl => exact (TW _ (lg_KK KX D9 (by first | exact chg0 | exact chg33 _))).nolimit); (case hd => exact Nat.le_of_ble_eq_true rfl)) | ((with_reducible refine' m_nsGetK KX D9 ?hc ?e ?_); (case hc => first | exact chg0 | exact chg33 _); (case e => k_is)) | ((with_reducible refine' m_nsSetNew D9 ?hs ?hr ?he ?_); (case hs => (repeat (first | exact Spl.here | apply Spl.there))); (case hr => kernel_rfl!); (case he => (intro hh kt; kernel_rfl!)); clear D9; intro hh kt hN D9; (try simp only [List.cons_append, List.nil_append] at D9)) | ((with_reducible refine' m_nsSetMod D9 ?hs ?hr ?he ?_); (case hs => (repeat (first | exact Spl.here | apply Spl.there))); (case hr => kernel_rfl!); (case he => (intro hh kt; kernel_rfl!)); clear D9; intro hN D9; (try simp only [List.cons_append, List.nil_append] at D9)) | ((with_reducible refine' m_nsDel D9 ?hs ?hh ?he ?_); (case hs => (repeat (first | exact Spl.here | apply Spl.there))); (case hh => kernel_rfl!); (case he => kernel_rfl!); clear D9; intro hN D9; (try simp only [List.cons_append, List.nil_append] at D9)) | ((with_reducible refine' m_nsGet (rv := none) D9 ?hm ?e ?_); (case hm => (repeat (first | exact List.Mem.head _ | apply List.Mem.tail))); (case e => kernel_rfl!)) | with_reducible refine wpAny_askSetting ?_ | with_reducible refine wpAny_point ?_ | with_reducible refine PyProof.Rows.lt_int ?_ | ((with_reducible refine callWith_F (q := 280) ?fnq ?_); (case fnq => exact ⟨_, _, _, _, lg_KK KX D9 chg0 _ _ (by k_is)⟩)) | ((with_reducible refine' m_nsL (rv := some (.ref ia)) hns ?ee ?_); (case ee => kernel_rfl!)) | ((with_reducible refine' m_nsL (rv := some (.ref ib)) hns ?ee ?_); (case ee => kernel_rfl!)) | ((first | guard_hyp gan | guard_hyp k); with_reducible refine te_in' ?_) | with_reducible refine te_go ?_ | ((first | guard_hyp gan | guard_hyp k); with_reducible refine aq_in ?_) | with_reducible refine aq_go ?_ | with_reducible refine ae_go ?_ | ((first | guard_hyp gan | guard_hyp k); with_reducible refine wpAny_of_eq (by assumption) ?_) | ((first | guard_hyp gan | guard_hyp k); with_reducible refine m_peek KX D9 chg0 (by assumption) ?_) | wp_delta | with_reducible refine wpAny_holding ?_ | with_reducible refine wpAny_standAt ?_ | with_reducible refine wpAny_rule ?_ | with_reducible refine wpAny_fresh' ?_ | ((first | guard_hyp gan | guard_hyp k); with_reducible refine te_in ?_) | ((with_reducible refine' wpAny_load (D9.keep _ _ ?ko nochg) ?_); (case ko => with_reducible first | exact gan | exact gbt | exact gsl | exact gst | exact gI | exact gL | exact gG | exact gE | exact gM | exact gN | exact k.cls | exact k.ns | exact k.dsc | exact k.ini | exact k.lt | exact k.cell | exact gi | exact gj)) | ((with_reducible refine' wpAny_loadPart (D9.keep _ _ ?ko nochg) ?_); (case ko => with_reducible first | exact gan | exact gbt | exact gsl | exact gst | exact gI | exact gL | exact gG | exact gE | exact gM | exact gN | exact k.cls | exact k.ns | exact k.dsc | exact k.ini | exact k.lt | exact k.cell | exact gi | exact gj)) | ((with_reducible refine' m_loadPart D9 ?hm ?_); (case hm => (repeat (first | exact List.Mem.head _ | apply List.Mem.tail)))) | ((with_reducible refine' m_load D9 ?hm ?_); (case hm => (repeat (first | exact List.Mem.head _ | apply List.Mem.tail)))) | ((with_reducible refine' m_alloc D9 ?ho ?_); (case ho => exact rfl); clear D9; intro a hN D9) | ((with_reducible refine' m_updPart D9 ?hp ?hf ?_); (case hp => (repeat (first | exact Put.here | apply Put.there))); (case hf => exact rfl); clear D9; intro hN D9; try dsimp only at D9) | ((with_reducible refine' m_upd D9 ?hp ?hf ?_); (case hp => (repeat (first | exact Put.here | apply Put.there))); (case hf => exact rfl); clear D9; intro hN D9; try dsimp only at D9) | ((with_reducible refine' m_loadC D9 ?hm ?_); (case hm => exact List.Mem.head _)) | ((with_reducible refine' m_loadK KX D9 ?hc ?e ?_); (case hc => first | exact chg0 | exact chg33 _); (case e => k_is)) | ((with_reducible refine' PySem.wpAny_ite_false ?zz ?_); (case zz => kernel_rfl!)) | ((with_reducible refine' PySem.wpAny_ite_true ?zz ?_); (case zz => kernel_rfl!)))
  refine call_q ?_
  refine callb_q KF.slot_mem.plain KF.entry_mem (KF.slot_mem.check _ _ _ _ _ _ _ _ ⟨_, k.dsc, rfl⟩ (KF.args_mem _ _ _) ?_)
  unfold Builtin.«member_descriptor.__get__» PySem.Builtin.Getset_descriptor.descrGet
  rw [dga_obj]
  unfold PySem.Builtin.Getset_descriptor.descrGetter PySem.Builtin.Getset_descriptor.descrCheckInstance PySem.Builtin.Getset_descriptor.descrNameAndClass isInstance
  repeat (first | with_reducible refine bq ?_ | with_reducible refine bq_go ?_ | with_reducible refine rv_go ?_ | with_reducible refine fin_done ?_ | with_reducible refine fin_again ?_ | with_reducible refine err_go ?_ | with_reducible refine rv_err ?_ | with_reducible refine wpAny_pure ?_ | with_reducible refine eq_in ?_ | with_reducible refine eq_go ?_ | ((with_reducible refine PySem.wpAny_enterFrame ?hl ?hd ?_); (case hl => exact (TW _ (lg_KK KX D9 (by first | exact chg0 | exact chg33 _))).nolimit); (case hd => exact Nat.le_of_ble_eq_true rfl)) | ((with_reducible refine' m_nsGetK KX D9 ?hc ?e ?_); (case hc => first | exact chg0 | exact chg33 _); (case e => k_is)) | ((with_reducible refine' m_nsSetNew D9 ?hs ?hr ?he ?_); (case hs => (repeat (first | exact Spl.here | apply Spl.there))); (case hr => kernel_rfl!); (case he => (intro hh kt; kernel_rfl!)); clear D9; intro hh kt hN D9; (try simp only [List.cons_append, List.nil_append] at D9)) | ((with_reducible refine' m_nsSetMod D9 ?hs ?hr ?he ?_); (case hs => (repeat (first | exact Spl.here | apply Spl.there))); (case hr => kernel_rfl!); (case he => (intro hh kt; kernel_rfl!)); clear D9; intro hN D9; (try simp only [List.cons_append, List.nil_append] at D9)) | ((with_reducible refine' m_nsDel D9 ?hs ?hh ?he ?_); (case hs => (repeat (first | exact Spl.here | apply Spl.there))); (case hh => kernel_rfl!); (case he => kernel_rfl!); clear D9; intro hN D9; (try simp only [List.cons_append, List.nil_append] at D9)) | ((with_reducible refine' m_nsGet (rv := none) D9 ?hm ?e ?_); (case hm => (repeat (first | exact List.Mem.head _ | apply List.Mem.tail))); (case e => kernel_rfl!)) | with_reducible refine wpAny_askSetting ?_ | with_reducible refine wpAny_point ?_ | with_reducible refine PyProof.Rows.lt_int ?_ | ((with_reducible refine callWith_F (q := 280) ?fnq ?_); (case fnq => exact ⟨_, _, _, _, lg_KK KX D9 chg0 _ _ (by k_is)⟩)) | ((with_reducible refine' m_nsL (rv := some (.ref ia)) hns ?ee ?_); (case ee => kernel_rfl!)) | ((with_reducible refine' m_nsL (rv := some (.ref ib)) hns ?ee ?_); (case ee => kernel_rfl!)) | ((first | guard_hyp gan | guard_hyp k); with_reducible refine te_in' ?_) | with_reducible refine te_go ?_ | ((first | guard_hyp gan | guard_hyp k); with_reducible refine aq_in ?_) | with_reducible refine aq_go ?_ | with_reducible refine ae_go ?_ | ((first | guard_hyp gan | guard_hyp k); with_reducible refine wpAny_of_eq (by assumption) ?_) | ((first | guard_hyp gan | guard_hyp k); with_reducible refine m_peek KX D9 chg0 (by assumption) ?_) | wp_delta | with_reducible refine wpAny_holding ?_ | with_reducible refine wpAny_standAt ?_ | with_reducible refine wpAny_rule ?_ | with_reducible refine wpAny_fresh' ?_ | ((first | guard_hyp gan | guard_hyp k); with_reducible refine te_in ?_) | ((with_reducible refine' wpAny_load (D9.keep _ _ ?ko nochg) ?_); (case ko => with_reducible first | exact gan | exact gbt | exact gsl | exact gst | exact gI | exact gL | exact gG | exact gE | exact gM | exact gN | exact k.cls | exact k.ns | exact k.dsc | exact k.ini | exact k.lt | exact k.cell | exact gi | exact gj)) | ((with_reducible refine' wpAny_loadPart (D9.keep _ _ ?ko nochg) ?_); (case ko => with_reducible first | exact gan | exact gbt | exact gsl | exact gst | exact gI | exact gL | exact gG | exact gE | exact gM | exact gN | exact k.cls | exact k.ns | exact k.dsc | exact k.ini | exact k.lt | exact k.cell | exact gi | exact gj)) | ((with_reducible refine' m_loadPart D9 ?hm ?_); (case hm => (repeat (first | exact List.Mem.head _ | apply List.Mem.tail)))) | ((with_reducible refine' m_load D9 ?hm ?_); (case hm => (repeat (first | exact List.Mem.head _ | apply List.Mem.tail)))) | ((with_reducible refine' m_alloc D9 ?ho ?_); (case ho => exact rfl); clear D9; intro a hN D9) | ((with_reducible refine' m_updPart D9 ?hp ?hf ?_); (case hp => (repeat (first | exact Put.here | apply Put.there))); (case hf => exact rfl); clear D9; intro hN D9; try dsimp only at D9) | ((with_reducible refine' m_upd D9 ?hp ?hf ?_); (case hp => (repeat (first | exact Put.here | apply Put.there))); (case hf => exact rfl); clear D9; intro hN D9; try dsimp only at D9) | ((with_reducible refine' m_loadC D9 ?hm ?_); (case hm => exact List.Mem.head _)) | ((with_reducible refine' m_loadK KX D9 ?hc ?e ?_); (case hc => first | exact chg0 | exact chg33 _); (case e => k_is)) | ((with_reducible refine' PySem.wpAny_ite_false ?zz ?_); (case zz => kernel_rfl!)) | ((with_reducible refine' PySem.wpAny_ite_true ?zz ?_); (case zz => kernel_rfl!)))
  show wpAny _ _ (isSubtype (.ref aK) (.ref aK)) _ _ _
  unfold isSubtype
  repeat (first | with_reducible refine bq ?_ | with_reducible refine bq_go ?_ | with_reducible refine rv_go ?_ | with_reducible refine fin_done ?_ | with_reducible refine fin_again ?_ | with_reducible refine err_go ?_ | with_reducible refine rv_err ?_ | with_reducible refine wpAny_pure ?_ | with_reducible refine eq_in ?_ | with_reducible refine eq_go ?_ | ((with_reducible refine PySem.wpAny_enterFrame ?hl ?hd ?_); (case hl => exact (TW _ (lg_KK KX D9 (by first | exact chg0 | exact chg33 _))).nolimit); (case hd => exact Nat.le_of_ble_eq_true rfl)) | ((with_reducible refine' m_nsGetK KX D9 ?hc ?e ?_); (case hc => first | exact chg0 | exact chg33 _); (case e => k_is)) | ((with_reducible refine' m_nsSetNew D9 ?hs ?hr ?he ?_); (case hs => (repeat (first | exact Spl.here | apply Spl.there))); (case hr => kernel_rfl!); (case he => (intro hh kt; kernel_rfl!)); clear D9; intro hh kt hN D9; (try simp only [List.cons_append, List.nil_append] at D9)) | ((with_reducible refine' m_nsSetMod D9 ?hs ?hr ?he ?_); (case hs => (repeat (first | exact Spl.here | apply Spl.there))); (case hr => kernel_rfl!); (case he => (intro hh kt; kernel_rfl!)); clear D9; intro hN D9; (try simp only [List.cons_append, List.nil_append] at D9)) | ((with_reducible refine' m_nsDel D9 ?hs ?hh ?he ?_); (case hs => (repeat (first | exact Spl.here | apply Spl.there))); (case hh => kernel_rfl!); (case he => kernel_rfl!); clear D9; intro hN D9; (try simp only [List.cons_append, List.nil_append] at D9)) | ((with_reducible refine' m_nsGet (rv := none) D9 ?hm ?e ?_); (case hm => (repeat (first | exact List.Mem.head _ | apply List.Mem.tail))); (case e => kernel_rfl!)) | with_reducible refine wpAny_askSetting ?_ | with_reducible refine wpAny_point ?_ | with_reducible refine PyProof.Rows.lt_int ?_ | ((with_reducible refine callWith_F (q := 280) ?fnq ?_); (case fnq => exact ⟨_, _, _, _, lg_KK KX D9 chg0 _ _ (by k_is)⟩)) | ((with_reducible refine' m_nsL (rv := some (.ref ia)) hns ?ee ?_); (case ee => kernel_rfl!)) | ((with_reducible refine' m_nsL (rv := some (.ref ib)) hns ?ee ?_); (case ee => kernel_rfl!)) | ((first | guard_hyp gan | guard_hyp k); with_reducible refine te_in' ?_) | with_reducible refine te_go ?_ | ((first | guard_hyp gan | guard_hyp k); with_reducible refine aq_in ?_) | with_reducible refine aq_go ?_ | with_reducible refine ae_go ?_ | ((first | guard_hyp gan | guard_hyp k); with_reducible refine wpAny_of_eq (by assumption) ?_) | ((first | guard_hyp gan | guard_hyp k); with_reducible refine m_peek KX D9 chg0 (by assumption) ?_) | wp_delta | with_reducible refine wpAny_holding ?_ | with_reducible refine wpAny_standAt ?_ | with_reducible refine wpAny_rule ?_ | with_reducible refine wpAny_fresh' ?_ | ((first | guard_hyp gan | guard_hyp k); with_reducible refine te_in ?_) | ((with_reducible refine' wpAny_load (D9.keep _ _ ?ko nochg) ?_); (case ko => with_reducible first | exact gan | exact gbt | exact gsl | exact gst | exact gI | exact gL | exact gG | exact gE | exact gM | exact gN | exact k.cls | exact k.ns | exact k.dsc | exact k.ini | exact k.lt | exact k.cell | exact gi | exact gj)) | ((with_reducible refine' wpAny_loadPart (D9.keep _ _ ?ko nochg) ?_); (case ko => with_reducible first | exact gan | exact gbt | exact gsl | exact gst | exact gI | exact gL | exact gG | exact gE | exact gM | exact gN | exact k.cls | exact k.ns | exact k.dsc | exact k.ini | exact k.lt | exact k.cell | exact gi | exact gj)) | ((with_reducible refine' m_loadPart D9 ?hm ?_); (case hm => (repeat (first | exact List.Mem.head _ | apply List.Mem.tail)))) | ((with_reducible refine' m_load D9 ?hm ?_); (case hm => (repeat (first | exact List.Mem.head _ | apply List.Mem.tail)))) | ((with_reducible refine' m_alloc D9 ?ho ?_); (case ho => exact rfl); clear D9; intro a hN D9) | ((with_reducible refine' m_updPart D9 ?hp ?hf ?_); (case hp => (repeat (first | exact Put.here | apply Put.there))); (case hf => exact rfl); clear D9; intro hN D9; try dsimp only at D9) | ((with_reducible refine' m_upd D9 ?hp ?hf ?_); (case hp => (repeat (first | exact Put.here | apply Put.there))); (case hf => exact rfl); clear D9; intro hN D9; try dsimp only at D9) | ((with_reducible refine' m_loadC D9 ?hm ?_); (case hm => exact List.Mem.head _)) | ((with_reducible refine' m_loadK KX D9 ?hc ?e ?_); (case hc => first | exact chg0 | exact chg33 _); (case e => k_is)) | ((with_reducible refine' PySem.wpAny_ite_false ?zz ?_); (case zz => kernel_rfl!)) | ((with_reducible refine' PySem.wpAny_ite_true ?zz ?_); (case zz => kernel_rfl!)))
  dsimp only
  rw [if_neg (by simp)]
  repeat (first | with_reducible refine bq ?_ | with_reducible refine bq_go ?_ | with_reducible refine rv_go ?_ | with_reducible refine fin_done ?_ | with_reducible refine fin_again ?_ | with_reducible refine err_go ?_ | with_reducible refine rv_err ?_ | with_reducible refine wpAny_pure ?_ | with_reducible refine eq_in ?_ | with_reducible refine eq_go ?_ | ((with_reducible refine PySem.wpAny_enterFrame ?hl ?hd ?_); (case hl => exact (TW _ (lg_KK KX D9 (by first | exact chg0 | exact chg33 _))).nolimit); (case hd => exact Nat.le_of_ble_eq_true rfl)) | ((with_reducible refine' m_nsGetK KX D9 ?hc ?e ?_); (case hc => first | exact chg0 | exact chg33 _); (case e => k_is)) | ((with_reducible refine' m_nsSetNew D9 ?hs ?hr ?he ?_); (case hs => (repeat (first | exact Spl.here | apply Spl.there))); (case hr => kernel_rfl!); (case he => (intro hh kt; kernel_rfl!)); clear D9; intro hh kt hN D9; (try simp only [List.cons_append, List.nil_append] at D9)) | ((with_reducible refine' m_nsSetMod D9 ?hs ?hr ?he ?_); (case hs => (repeat (first | exact Spl.here | apply Spl.there))); (case hr => kernel_rfl!); (case he => (intro hh kt; kernel_rfl!)); clear D9; intro hN D9; (try simp only [List.cons_append, List.nil_append] at D9)) | ((with_reducible refine' m_nsDel D9 ?hs ?hh ?he ?_); (case hs => (repeat (first | exact Spl.here | apply Spl.there))); (case hh => kernel_rfl!); (case he => kernel_rfl!); clear D9; intro hN D9; (try simp only [List.cons_append, List.nil_append] at D9)) | ((with_reducible refine' m_nsGet (rv := none) D9 ?hm ?e ?_); (case hm => (repeat (first | exact List.Mem.head _ | apply List.Mem.tail))); (case e => kernel_rfl!)) | with_reducible refine wpAny_askSetting ?_ | with_reducible refine wpAny_point ?_ | with_reducible refine PyProof.Rows.lt_int ?_ | ((with_reducible refine callWith_F (q := 280) ?fnq ?_); (case fnq => exact ⟨_, _, _, _, lg_KK KX D9 chg0 _ _ (by k_is)⟩)) | ((with_reducible refine' m_nsL (rv := some (.ref ia)) hns ?ee ?_); (case ee => kernel_rfl!)) | ((with_reducible refine' m_nsL (rv := some (.ref ib)) hns ?ee ?_); (case ee => kernel_rfl!)) | ((first | guard_hyp gan | guard_hyp k); with_reducible refine te_in' ?_) | with_reducible refine te_go ?_ | ((first | guard_hyp gan | guard_hyp k); with_reducible refine aq_in ?_) | with_reducible refine aq_go ?_ | with_reducible refine ae_go ?_ | ((first | guard_hyp gan | guard_hyp k); with_reducible refine wpAny_of_eq (by assumption) ?_) | ((first | guard_hyp gan | guard_hyp k); with_reducible refine m_peek KX D9 chg0 (by assumption) ?_) | wp_delta | with_reducible refine wpAny_holding ?_ | with_reducible refine wpAny_standAt ?_ | with_reducible refine wpAny_rule ?_ | with_reducible refine wpAny_fresh' ?_ | ((first | guard_hyp gan | guard_hyp k); with_reducible refine te_in ?_) | ((with_reducible refine' wpAny_load (D9.keep _ _ ?ko nochg) ?_); (case ko => with_reducible first | exact gan | exact gbt | exact gsl | exact gst | exact gI | exact gL | exact gG | exact gE | exact gM | exact gN | exact k.cls | exact k.ns | exact k.dsc | exact k.ini | exact k.lt | exact k.cell | exact gi | exact gj)) | ((with_reducible refine' wpAny_loadPart (D9.keep _ _ ?ko nochg) ?_); (case ko => with_reducible first | exact gan | exact gbt | exact gsl | exact gst | exact gI | exact gL | exact gG | exact gE | exact gM | exact gN | exact k.cls | exact k.ns | exact k.dsc | exact k.ini | exact k.lt | exact k.cell | exact gi | exact gj)) | ((with_reducible refine' m_loadPart D9 ?hm ?_); (case hm => (repeat (first | exact List.Mem.head _ | apply List.Mem.tail)))) | ((with_reducible refine' m_load D9 ?hm ?_); (case hm => (repeat (first | exact List.Mem.head _ | apply List.Mem.tail)))) | ((with_reducible refine' m_alloc D9 ?ho ?_); (case ho => exact rfl); clear D9; intro a hN D9) | ((with_reducible refine' m_updPart D9 ?hp ?hf ?_); (case hp => (repeat (first | exact Put.here | apply Put.there))); (case hf => exact rfl); clear D9; intro hN D9; try dsimp only at D9) | ((with_reducible refine' m_upd D9 ?hp ?hf ?_); (case hp => (repeat (first | exact Put.here | apply Put.there))); (case hf => exact rfl); clear D9; intro hN D9; try dsimp only at D9) | ((with_reducible refine' m_loadC D9 ?hm ?_); (case hm => exact List.Mem.head _)) | ((with_reducible refine' m_loadK KX D9 ?hc ?e ?_); (case hc => first | exact chg0 | exact chg33 _); (case e => k_is)) | ((with_reducible refine' PySem.wpAny_ite_false ?zz ?_); (case zz => kernel_rfl!)) | ((with_reducible refine' PySem.wpAny_ite_true ?zz ?_); (case zz => kernel_rfl!)))
  refine ⟨Code.quiet_builtin _ (by decide +kernel), builtin_q KF.entry_slot ?_⟩
  unfold Builtin.«proto.slot» Builtin.Slots.target
  repeat (first | with_reducible refine bq ?_ | with_reducible refine bq_go ?_ | with_reducible refine rv_go ?_ | with_reducible refine fin_done ?_ | with_reducible refine fin_again ?_ | with_reducible refine err_go ?_ | with_reducible refine rv_err ?_ | with_reducible refine wpAny_pure ?_ | with_reducible refine eq_in ?_ | with_reducible refine eq_go ?_ | ((with_reducible refine PySem.wpAny_enterFrame ?hl ?hd ?_); (case hl => exact (TW _ (lg_KK KX D9 (by first | exact chg0 | exact chg33 _))).nolimit); (case hd => exact Nat.le_of_ble_eq_true rfl)) | ((with_reducible refine' m_nsGetK KX D9 ?hc ?e ?_); (case hc => first | exact chg0 | exact chg33 _); (case e => k_is)) | ((with_reducible refine' m_nsSetNew D9 ?hs ?hr ?he ?_); (case hs => (repeat (first | exact Spl.here | apply Spl.there))); (case hr => kernel_rfl!); (case he => (intro hh kt; kernel_rfl!)); clear D9; intro hh kt hN D9; (try simp only [List.cons_append, List.nil_append] at D9)) | ((with_reducible refine' m_nsSetMod D9 ?hs ?hr ?he ?_); (case hs => (repeat (first | exact Spl.here | apply Spl.there))); (case hr => kernel_rfl!); (case he => (intro hh kt; kernel_rfl!)); clear D9; intro hN D9; (try simp only [List.cons_append, List.nil_append] at D9)) | ((with_reducible refine' m_nsDel D9 ?hs ?hh ?he ?_); (case hs => (repeat (first | exact Spl.here | apply Spl.there))); (case hh => kernel_rfl!); (case he => kernel_rfl!); clear D9; intro hN D9; (try simp only [List.cons_append, List.nil_append] at D9)) | ((with_reducible refine' m_nsGet (rv := none) D9 ?hm ?e ?_); (case hm => (repeat (first | exact List.Mem.head _ | apply List.Mem.tail))); (case e => kernel_rfl!)) | with_reducible refine wpAny_askSetting ?_ | with_reducible refine wpAny_point ?_ | with_reducible refine PyProof.Rows.lt_int ?_ | ((with_reducible refine callWith_F (q := 280) ?fnq ?_); (case fnq => exact ⟨_, _, _, _, lg_KK KX D9 chg0 _ _ (by k_is)⟩)) | ((with_reducible refine' m_nsL (rv := some (.ref ia)) hns ?ee ?_); (case ee => kernel_rfl!)) | ((with_reducible refine' m_nsL (rv := some (.ref ib)) hns ?ee ?_); (case ee => kernel_rfl!)) | ((first | guard_hyp gan | guard_hyp k); with_reducible refine te_in' ?_) | with_reducible refine te_go ?_ | ((first | guard_hyp gan | guard_hyp k); with_reducible refine aq_in ?_) | with_reducible refine aq_go ?_ | with_reducible refine ae_go ?_ | ((first | guard_hyp gan | guard_hyp k); with_reducible refine wpAny_of_eq (by assumption) ?_) | ((first | guard_hyp gan | guard_hyp k); with_reducible refine m_peek KX D9 chg0 (by assumption) ?_) | wp_delta | with_reducible refine wpAny_holding ?_ | with_reducible refine wpAny_standAt ?_ | with_reducible refine wpAny_rule ?_ | with_reducible refine wpAny_fresh' ?_ | ((first | guard_hyp gan | guard_hyp k); with_reducible refine te_in ?_) | ((with_reducible refine' wpAny_load (D9.keep _ _ ?ko nochg) ?_); (case ko => with_reducible first | exact gan | exact gbt | exact gsl | exact gst | exact gI | exact gL | exact gG | exact gE | exact gM | exact gN | exact k.cls | exact k.ns | exact k.dsc | exact k.ini | exact k.lt | exact k.cell | exact gi | exact gj)) | ((with_reducible refine' wpAny_loadPart (D9.keep _ _ ?ko nochg) ?_); (case ko => with_reducible first | exact gan | exact gbt | exact gsl | exact gst | exact gI | exact gL | exact gG | exact gE | exact gM | exact gN | exact k.cls | exact k.ns | exact k.dsc | exact k.ini | exact k.lt | exact k.cell | exact gi | exact gj)) | ((with_reducible refine' m_loadPart D9 ?hm ?_); (case hm => (repeat (first | exact List.Mem.head _ | apply List.Mem.tail)))) | ((with_reducible refine' m_load D9 ?hm ?_); (case hm => (repeat (first | exact List.Mem.head _ | apply List.Mem.tail)))) | ((with_reducible refine' m_alloc D9 ?ho ?_); (case ho => exact rfl); clear D9; intro a hN D9) | ((with_reducible refine' m_updPart D9 ?hp ?hf ?_); (case hp => (repeat (first | exact Put.here | apply Put.there))); (case hf => exact rfl); clear D9; intro hN D9; try dsimp only at D9) | ((with_reducible refine' m_upd D9 ?hp ?hf ?_); (case hp => (repeat (first | exact Put.here | apply Put.there))); (case hf => exact rfl); clear D9; intro hN D9; try dsimp only at D9) | ((with_reducible refine' m_loadC D9 ?hm ?_); (case hm => exact List.Mem.head _)) | ((with_reducible refine' m_loadK KX D9 ?hc ?e ?_); (case hc => first | exact chg0 | exact chg33 _); (case e => k_is)) | ((with_reducible refine' PySem.wpAny_ite_false ?zz ?_); (case zz => kernel_rfl!)) | ((with_reducible refine' PySem.wpAny_ite_true ?zz ?_); (case zz => kernel_rfl!)))
  exact hQ _
theorem ltf_c {w : World} {p : Program} {loose : List Str} {mg mb : Str → Option Value} {A : Around} {Q : Value → Shared → Prop} {h : Heap} {g : Array GenState} {d : Drawn} {t : Nat} {os : OsState} {aK ia ib r₁ r₂ : Addr} {x : KDat} {k1 v1 k2 v2 : Str} {t1 t2 t3 t4 : Tok}
    (TW : Tops w p loose mg mb) (KX : (KK w.params).In h) (RA : Room 4 A) (k : KOk h aK x) (Ia : InstK h aK ia (.ref r₁)) (Ib : InstK h aK ib (.ref r₂))
    (hr₁ : h.get? r₁ = some (tupO [.str k1 t1, .str v1 t2])) (hr₂ : h.get? r₂ = some (tupO [.str k2 t3, .str v2 t4])) (hv₁ : okS v1) (hv₂ : okS v2) (hk₁ : k1 ∈ NM) (hk₂ : k2 ∈ NM)
    (hQ : ∀ h' tk', Up h h' → Q (.bool (decide (cmpv k1 v1 k2 v2 < 0))) ⟨h', g, d, tk', os⟩) :
    wpAny (model PW w) A (call (.ref x.fL) [.ref ia, .ref ib] []) Q (fun _ _ => False) ⟨h, g, d, t, os⟩ := by
  refine weaken4 RA ?_
  have D9 := Lg.start h
  obtain ⟨oa, ga, ca, da, sa⟩ := Ia
  obtain ⟨ob, gb, cb, db, sb⟩ := Ib
  obtain ⟨_, dxa, _, _⟩ := oa
  obtain ⟨_, dxb, _, _⟩ := ob
  dsimp only at ca da sa cb db sb
  subst ca da sa cb db sb
  have gi := ga
  have gj := gb
  refine call_q ?_
  have T := TW _ KX
  refine codeAny_call_def (s := ⟨h, g, d, t, os⟩) (fd := fnX _ _ _ _ _ _ _ _ _ _ _ _ _) (binds := [(Str.ofString "self", .ref ia), (Str.ofString "other", .ref ib)]) (by exact Nat.le_of_ble_eq_true rfl) k.lt rfl T.nolimit k.cLr rfl ?b1 ?b2 (locs rfl) ?_
  case b1 => exact BindsTo.of_eq rfl
  case b2 => (show ∀ z ∈ ([(Str.ofString "self", NameKind.local), (Str.ofString "other", NameKind.local), (Str.ofString "mycmp", NameKind.free)] : List (Str × NameKind)), z.2 ≠ NameKind.cell); decide
  intro hN hns hk
  replace D9 : Lg h hN [] [] := ⟨fun b o e _ => hk b o e, fun _ hp => (nomatch hp), fun _ hp => (nomatch hp), List.nodup_nil⟩
  dsimp only [callEnv, fnX, newEnv] at hns ⊢
  generalize h.objs.size = L at hns ⊢
  refine wpAny_execs_cons (wpAny_Return_some (wpAny_Compare1 (Call_Name rfl ?_)))
  refine wpAny_mono (Q := fun f s₁ => ∃ tk', f = Value.ref 280 ∧ s₁ = (⟨hN, g, d, tk', os⟩ : Shared)) (E := fun _ _ => False) ?_ ?_ (fun _ _ h => h.elim)
  · repeat (first | with_reducible refine bq ?_ | with_reducible refine bq_go ?_ | with_reducible refine rv_go ?_ | with_reducible refine fin_done ?_ | with_reducible refine fin_again ?_ | with_reducible refine err_go ?_ | with_reducible refine rv_err ?_ | with_reducible refine wpAny_pure ?_ | with_reducible refine eq_in ?_ | with_reducible refine eq_go ?_ | ((with_reducible refine PySem.wpAny_enterFrame ?hl ?hd ?_); (case hl => exact (TW _ (lg_KK KX D9 (by first | exact chg0 | exact chg33 _))).nolimit); (case hd => exact Nat.le_of_ble_eq_true rfl)) | ((with_reducible refine' m_nsGetK KX D9 ?hc ?e ?_); (case hc => first | exact chg0 | exact chg33 _); (case e => k_is)) | ((with_reducible refine' m_nsSetNew D9 ?hs ?hr ?he ?_); (case hs => (repeat (first | exact Spl.here | apply Spl.there))); (case hr => kernel_rfl!); (case he => (intro hh kt; kernel_rfl!)); clear D9; intro hh kt hN D9; (try simp only [List.cons_append, List.nil_append] at D9)) | ((with_reducible refine' m_nsSetMod D9 ?hs ?hr ?he ?_); (case hs => (repeat (first | exact Spl.here | apply Spl.there))); (case hr => kernel_rfl!); (case he => (intro hh kt; kernel_rfl!)); clear D9; intro hN D9; (try simp only [List.cons_append, List.nil_append] at D9)) | ((with_reducible refine' m_nsDel D9 ?hs ?hh ?he ?_); (case hs => (repeat (first | exact Spl.here | apply Spl.there))); (case hh => kernel_rfl!); (case he => kernel_rfl!); clear D9; intro hN D9; (try simp only [List.cons_append, List.nil_append] at D9)) | ((with_reducible refine' m_nsGet (rv := none) D9 ?hm ?e ?_); (case hm => (repeat (first | exact List.Mem.head _ | apply List.Mem.tail))); (case e => kernel_rfl!)) | with_reducible refine wpAny_askSetting ?_ | with_reducible refine wpAny_point ?_ | with_reducible refine PyProof.Rows.lt_int ?_ | ((with_reducible refine callWith_F (q := 280) ?fnq ?_); (case fnq => exact ⟨_, _, _, _, lg_KK KX D9 chg0 _ _ (by k_is)⟩)) | ((with_reducible refine' m_nsL (rv := some (.ref ia)) hns ?ee ?_); (case ee => kernel_rfl!)) | ((with_reducible refine' m_nsL (rv := some (.ref ib)) hns ?ee ?_); (case ee => kernel_rfl!)) | ((first | guard_hyp gan | guard_hyp k); with_reducible refine te_in' ?_) | with_reducible refine te_go ?_ | ((first | guard_hyp gan | guard_hyp k); with_reducible refine aq_in ?_) | with_reducible refine aq_go ?_ | with_reducible refine ae_go ?_ | ((first | guard_hyp gan | guard_hyp k); with_reducible refine wpAny_of_eq (by assumption) ?_) | ((first | guard_hyp gan | guard_hyp k); with_reducible refine m_peek KX D9 chg0 (by assumption) ?_) | wp_delta | with_reducible refine wpAny_holding ?_ | with_reducible refine wpAny_standAt ?_ | with_reducible refine wpAny_rule ?_ | with_reducible refine wpAny_fresh' ?_ | ((first | guard_hyp gan | guard_hyp k); with_reducible refine te_in ?_) | ((with_reducible refine' wpAny_load (D9.keep _ _ ?ko nochg) ?_); (case ko => with_reducible first | exact gan | exact gbt | exact gsl | exact gst | exact gI | exact gL | exact gG | exact gE | exact gM | exact gN | exact k.cls | exact k.ns | exact k.dsc | exact k.ini | exact k.lt | exact k.cell | exact gi | exact gj)) | ((with_reducible refine' wpAny_loadPart (D9.keep _ _ ?ko nochg) ?_); (case ko => with_reducible first | exact gan | exact gbt | exact gsl | exact gst | exact gI | exact gL | exact gG | exact gE | exact gM | exact gN | exact k.cls | exact k.ns | exact k.dsc | exact k.ini | exact k.lt | exact k.cell | exact gi | exact gj)) | ((with_reducible refine' m_loadPart D9 ?hm ?_); (case hm => (repeat (first | exact List.Mem.head _ | apply List.Mem.tail)))) | ((with_reducible refine' m_load D9 ?hm ?_); (case hm => (repeat (first | exact List.Mem.head _ | apply List.Mem.tail)))) | ((with_reducible refine' m_alloc D9 ?ho ?_); (case ho => exact rfl); clear D9; intro a hN D9) | ((with_reducible refine' m_updPart D9 ?hp ?hf ?_); (case hp => (repeat (first | exact Put.here | apply Put.there))); (case hf => exact rfl); clear D9; intro hN D9; try dsimp only at D9) | ((with_reducible refine' m_upd D9 ?hp ?hf ?_); (case hp => (repeat (first | exact Put.here | apply Put.there))); (case hf => exact rfl); clear D9; intro hN D9; try dsimp only at D9) | ((with_reducible refine' m_loadC D9 ?hm ?_); (case hm => exact List.Mem.head _)) | ((with_reducible refine' m_loadK KX D9 ?hc ?e ?_); (case hc => first | exact chg0 | exact chg33 _); (case e => k_is)) | ((with_reducible refine' PySem.wpAny_ite_false ?zz ?_); (case zz => kernel_rfl!)) | ((with_reducible refine' PySem.wpAny_ite_true ?zz ?_); (case zz => kernel_rfl!)))
    exact ⟨_, rfl, rfl⟩
  rintro _ _ ⟨tk0, rfl, rfl⟩
  refine callWith_F ⟨_, _, _, _, lg_KK KX D9 chg0 280 _ (by k_is)⟩ ?_
  repeat (first | with_reducible refine bq ?_ | with_reducible refine bq_go ?_ | with_reducible refine rv_go ?_ | with_reducible refine fin_done ?_ | with_reducible refine fin_again ?_ | with_reducible refine err_go ?_ | with_reducible refine rv_err ?_ | with_reducible refine wpAny_pure ?_ | with_reducible refine eq_in ?_ | with_reducible refine eq_go ?_ | ((with_reducible refine PySem.wpAny_enterFrame ?hl ?hd ?_); (case hl => exact (TW _ (lg_KK KX D9 (by first | exact chg0 | exact chg33 _))).nolimit); (case hd => exact Nat.le_of_ble_eq_true rfl)) | ((with_reducible refine' m_nsGetK KX D9 ?hc ?e ?_); (case hc => first | exact chg0 | exact chg33 _); (case e => k_is)) | ((with_reducible refine' m_nsSetNew D9 ?hs ?hr ?he ?_); (case hs => (repeat (first | exact Spl.here | apply Spl.there))); (case hr => kernel_rfl!); (case he => (intro hh kt; kernel_rfl!)); clear D9; intro hh kt hN D9; (try simp only [List.cons_append, List.nil_append] at D9)) | ((with_reducible refine' m_nsSetMod D9 ?hs ?hr ?he ?_); (case hs => (repeat (first | exact Spl.here | apply Spl.there))); (case hr => kernel_rfl!); (case he => (intro hh kt; kernel_rfl!)); clear D9; intro hN D9; (try simp only [List.cons_append, List.nil_append] at D9)) | ((with_reducible refine' m_nsDel D9 ?hs ?hh ?he ?_); (case hs => (repeat (first | exact Spl.here | apply Spl.there))); (case hh => kernel_rfl!); (case he => kernel_rfl!); clear D9; intro hN D9; (try simp only [List.cons_append, List.nil_append] at D9)) | ((with_reducible refine' m_nsGet (rv := none) D9 ?hm ?e ?_); (case hm => (repeat (first | exact List.Mem.head _ | apply List.Mem.tail))); (case e => kernel_rfl!)) | with_reducible refine wpAny_askSetting ?_ | with_reducible refine wpAny_point ?_ | with_reducible refine PyProof.Rows.lt_int ?_ | ((with_reducible refine callWith_F (q := 280) ?fnq ?_); (case fnq => exact ⟨_, _, _, _, lg_KK KX D9 chg0 _ _ (by k_is)⟩)) | ((with_reducible refine' m_nsL (rv := some (.ref ia)) hns ?ee ?_); (case ee => kernel_rfl!)) | ((with_reducible refine' m_nsL (rv := some (.ref ib)) hns ?ee ?_); (case ee => kernel_rfl!)) | ((first | guard_hyp gan | guard_hyp k); with_reducible refine te_in' ?_) | with_reducible refine te_go ?_ | ((first | guard_hyp gan | guard_hyp k); with_reducible refine aq_in ?_) | with_reducible refine aq_go ?_ | with_reducible refine ae_go ?_ | ((first | guard_hyp gan | guard_hyp k); with_reducible refine wpAny_of_eq (by assumption) ?_) | ((first | guard_hyp gan | guard_hyp k); with_reducible refine m_peek KX D9 chg0 (by assumption) ?_) | wp_delta | with_reducible refine wpAny_holding ?_ | with_reducible refine wpAny_standAt ?_ | with_reducible refine wpAny_rule ?_ | with_reducible refine wpAny_fresh' ?_ | ((first | guard_hyp gan | guard_hyp k); with_reducible refine te_in ?_) | ((with_reducible refine' wpAny_load (D9.keep _ _ ?ko nochg) ?_); (case ko => with_reducible first | exact gan | exact gbt | exact gsl | exact gst | exact gI | exact gL | exact gG | exact gE | exact gM | exact gN | exact k.cls | exact k.ns | exact k.dsc | exact k.ini | exact k.lt | exact k.cell | exact gi | exact gj)) | ((with_reducible refine' wpAny_loadPart (D9.keep _ _ ?ko nochg) ?_); (case ko => with_reducible first | exact gan | exact gbt | exact gsl | exact gst | exact gI | exact gL | exact gG | exact gE | exact gM | exact gN | exact k.cls | exact k.ns | exact k.dsc | exact k.ini | exact k.lt | exact k.cell | exact gi | exact gj)) | ((with_reducible refine' m_loadPart D9 ?hm ?_); (case hm => (repeat (first | exact List.Mem.head _ | apply List.Mem.tail)))) | ((with_reducible refine' m_load D9 ?hm ?_); (case hm => (repeat (first | exact List.Mem.head _ | apply List.Mem.tail)))) | ((with_reducible refine' m_alloc D9 ?ho ?_); (case ho => exact rfl); clear D9; intro a hN D9) | ((with_reducible refine' m_updPart D9 ?hp ?hf ?_); (case hp => (repeat (first | exact Put.here | apply Put.there))); (case hf => exact rfl); clear D9; intro hN D9; try dsimp only at D9) | ((with_reducible refine' m_upd D9 ?hp ?hf ?_); (case hp => (repeat (first | exact Put.here | apply Put.there))); (case hf => exact rfl); clear D9; intro hN D9; try dsimp only at D9) | ((with_reducible refine' m_loadC D9 ?hm ?_); (case hm => exact List.Mem.head _)) | ((with_reducible refine' m_loadK KX D9 ?hc ?e ?_); (case hc => first | exact chg0 | exact chg33 _); (case e => k_is)) | ((with_reducible refine' PySem.wpAny_ite_false ?zz ?_); (case zz => kernel_rfl!)) | ((with_reducible refine' PySem.wpAny_ite_true ?zz ?_); (case zz => kernel_rfl!)))
  have hga : classOwn (.type "object") "__getattribute__" = pure (some (.builtin "object.__getattribute__")) := by show pure (builtinOwn _ _) = _; rw [builtinOwn_eq_fast]; kernel_rfl
  have hgt : classOwn (.type "object") "__getattr__" = pure none := by show pure (builtinOwn _ _) = _; rw [builtinOwn_eq_fast]; kernel_rfl
  dsimp only
  refine m_tlObj (k.up hk) (by kernel_rfl!) hga ?_
  repeat (first | with_reducible refine bq ?_ | with_reducible refine bq_go ?_ | with_reducible refine rv_go ?_ | with_reducible refine fin_done ?_ | with_reducible refine fin_again ?_ | with_reducible refine err_go ?_ | with_reducible refine rv_err ?_ | with_reducible refine wpAny_pure ?_ | with_reducible refine eq_in ?_ | with_reducible refine eq_go ?_ | ((with_reducible refine PySem.wpAny_enterFrame ?hl ?hd ?_); (case hl => exact (TW _ (lg_KK KX D9 (by first | exact chg0 | exact chg33 _))).nolimit); (case hd => exact Nat.le_of_ble_eq_true rfl)) | ((with_reducible refine' m_nsGetK KX D9 ?hc ?e ?_); (case hc => first | exact chg0 | exact chg33 _); (case e => k_is)) | ((with_reducible refine' m_nsSetNew D9 ?hs ?hr ?he ?_); (case hs => (repeat (first | exact Spl.here | apply Spl.there))); (case hr => kernel_rfl!); (case he => (intro hh kt; kernel_rfl!)); clear D9; intro hh kt hN D9; (try simp only [List.cons_append, List.nil_append] at D9)) | ((with_reducible refine' m_nsSetMod D9 ?hs ?hr ?he ?_); (case hs => (repeat (first | exact Spl.here | apply Spl.there))); (case hr => kernel_rfl!); (case he => (intro hh kt; kernel_rfl!)); clear D9; intro hN D9; (try simp only [List.cons_append, List.nil_append] at D9)) | ((with_reducible refine' m_nsDel D9 ?hs ?hh ?he ?_); (case hs => (repeat (first | exact Spl.here | apply Spl.there))); (case hh => kernel_rfl!); (case he => kernel_rfl!); clear D9; intro hN D9; (try simp only [List.cons_append, List.nil_append] at D9)) | ((with_reducible refine' m_nsGet (rv := none) D9 ?hm ?e ?_); (case hm => (repeat (first | exact List.Mem.head _ | apply List.Mem.tail))); (case e => kernel_rfl!)) | with_reducible refine wpAny_askSetting ?_ | with_reducible refine wpAny_point ?_ | with_reducible refine PyProof.Rows.lt_int ?_ | ((with_reducible refine callWith_F (q := 280) ?fnq ?_); (case fnq => exact ⟨_, _, _, _, lg_KK KX D9 chg0 _ _ (by k_is)⟩)) | ((with_reducible refine' m_nsL (rv := some (.ref ia)) hns ?ee ?_); (case ee => kernel_rfl!)) | ((with_reducible refine' m_nsL (rv := some (.ref ib)) hns ?ee ?_); (case ee => kernel_rfl!)) | ((first | guard_hyp gan | guard_hyp k); with_reducible refine te_in' ?_) | with_reducible refine te_go ?_ | ((first | guard_hyp gan | guard_hyp k); with_reducible refine aq_in ?_) | with_reducible refine aq_go ?_ | with_reducible refine ae_go ?_ | ((first | guard_hyp gan | guard_hyp k); with_reducible refine wpAny_of_eq (by assumption) ?_) | ((first | guard_hyp gan | guard_hyp k); with_reducible refine m_peek KX D9 chg0 (by assumption) ?_) | wp_delta | with_reducible refine wpAny_holding ?_ | with_reducible refine wpAny_standAt ?_ | with_reducible refine wpAny_rule ?_ | with_reducible refine wpAny_fresh' ?_ | ((first | guard_hyp gan | guard_hyp k); with_reducible refine te_in ?_) | ((with_reducible refine' wpAny_load (D9.keep _ _ ?ko nochg) ?_); (case ko => with_reducible first | exact gan | exact gbt | exact gsl | exact gst | exact gI | exact gL | exact gG | exact gE | exact gM | exact gN | exact k.cls | exact k.ns | exact k.dsc | exact k.ini | exact k.lt | exact k.cell | exact gi | exact gj)) | ((with_reducible refine' wpAny_loadPart (D9.keep _ _ ?ko nochg) ?_); (case ko => with_reducible first | exact gan | exact gbt | exact gsl | exact gst | exact gI | exact gL | exact gG | exact gE | exact gM | exact gN | exact k.cls | exact k.ns | exact k.dsc | exact k.ini | exact k.lt | exact k.cell | exact gi | exact gj)) | ((with_reducible refine' m_loadPart D9 ?hm ?_); (case hm => (repeat (first | exact List.Mem.head _ | apply List.Mem.tail)))) | ((with_reducible refine' m_load D9 ?hm ?_); (case hm => (repeat (first | exact List.Mem.head _ | apply List.Mem.tail)))) | ((with_reducible refine' m_alloc D9 ?ho ?_); (case ho => exact rfl); clear D9; intro a hN D9) | ((with_reducible refine' m_updPart D9 ?hp ?hf ?_); (case hp => (repeat (first | exact Put.here | apply Put.there))); (case hf => exact rfl); clear D9; intro hN D9; try dsimp only at D9) | ((with_reducible refine' m_upd D9 ?hp ?hf ?_); (case hp => (repeat (first | exact Put.here | apply Put.there))); (case hf => exact rfl); clear D9; intro hN D9; try dsimp only at D9) | ((with_reducible refine' m_loadC D9 ?hm ?_); (case hm => exact List.Mem.head _)) | ((with_reducible refine' m_loadK KX D9 ?hc ?e ?_); (case hc => first | exact chg0 | exact chg33 _); (case e => k_is)) | ((with_reducible refine' PySem.wpAny_ite_false ?zz ?_); (case zz => kernel_rfl!)) | ((with_reducible refine' PySem.wpAny_ite_true ?zz ?_); (case zz => kernel_rfl!)))
  refine slot_c (lg_KK KX D9 chg0) (k.up hk) (hk _ _ ga) fun tk1 => ?_
  (try dsimp only)
  repeat (first | with_reducible refine bq ?_ | with_reducible refine bq_go ?_ | with_reducible refine rv_go ?_ | with_reducible refine fin_done ?_ | with_reducible refine fin_again ?_ | with_reducible refine err_go ?_ | with_reducible refine rv_err ?_ | with_reducible refine wpAny_pure ?_ | with_reducible refine eq_in ?_ | with_reducible refine eq_go ?_ | ((with_reducible refine PySem.wpAny_enterFrame ?hl ?hd ?_); (case hl => exact (TW _ (lg_KK KX D9 (by first | exact chg0 | exact chg33 _))).nolimit); (case hd => exact Nat.le_of_ble_eq_true rfl)) | ((with_reducible refine' m_nsGetK KX D9 ?hc ?e ?_); (case hc => first | exact chg0 | exact chg33 _); (case e => k_is)) | ((with_reducible refine' m_nsSetNew D9 ?hs ?hr ?he ?_); (case hs => (repeat (first | exact Spl.here | apply Spl.there))); (case hr => kernel_rfl!); (case he => (intro hh kt; kernel_rfl!)); clear D9; intro hh kt hN D9; (try simp only [List.cons_append, List.nil_append] at D9)) | ((with_reducible refine' m_nsSetMod D9 ?hs ?hr ?he ?_); (case hs => (repeat (first | exact Spl.here | apply Spl.there))); (case hr => kernel_rfl!); (case he => (intro hh kt; kernel_rfl!)); clear D9; intro hN D9; (try simp only [List.cons_append, List.nil_append] at D9)) | ((with_reducible refine' m_nsDel D9 ?hs ?hh ?he ?_); (case hs => (repeat (first | exact Spl.here | apply Spl.there))); (case hh => kernel_rfl!); (case he => kernel_rfl!); clear D9; intro hN D9; (try simp only [List.cons_append, List.nil_append] at D9)) | ((with_reducible refine' m_nsGet (rv := none) D9 ?hm ?e ?_); (case hm => (repeat (first | exact List.Mem.head _ | apply List.Mem.tail))); (case e => kernel_rfl!)) | with_reducible refine wpAny_askSetting ?_ | with_reducible refine wpAny_point ?_ | with_reducible refine PyProof.Rows.lt_int ?_ | ((with_reducible refine callWith_F (q := 280) ?fnq ?_); (case fnq => exact ⟨_, _, _, _, lg_KK KX D9 chg0 _ _ (by k_is)⟩)) | ((with_reducible refine' m_nsL (rv := some (.ref ia)) hns ?ee ?_); (case ee => kernel_rfl!)) | ((with_reducible refine' m_nsL (rv := some (.ref ib)) hns ?ee ?_); (case ee => kernel_rfl!)) | ((first | guard_hyp gan | guard_hyp k); with_reducible refine te_in' ?_) | with_reducible refine te_go ?_ | ((first | guard_hyp gan | guard_hyp k); with_reducible refine aq_in ?_) | with_reducible refine aq_go ?_ | with_reducible refine ae_go ?_ | ((first | guard_hyp gan | guard_hyp k); with_reducible refine wpAny_of_eq (by assumption) ?_) | ((first | guard_hyp gan | guard_hyp k); with_reducible refine m_peek KX D9 chg0 (by assumption) ?_) | wp_delta | with_reducible refine wpAny_holding ?_ | with_reducible refine wpAny_standAt ?_ | with_reducible refine wpAny_rule ?_ | with_reducible refine wpAny_fresh' ?_ | ((first | guard_hyp gan | guard_hyp k); with_reducible refine te_in ?_) | ((with_reducible refine' wpAny_load (D9.keep _ _ ?ko nochg) ?_); (case ko => with_reducible first | exact gan | exact gbt | exact gsl | exact gst | exact gI | exact gL | exact gG | exact gE | exact gM | exact gN | exact k.cls | exact k.ns | exact k.dsc | exact k.ini | exact k.lt | exact k.cell | exact gi | exact gj)) | ((with_reducible refine' wpAny_loadPart (D9.keep _ _ ?ko nochg) ?_); (case ko => with_reducible first | exact gan | exact gbt | exact gsl | exact gst | exact gI | exact gL | exact gG | exact gE | exact gM | exact gN | exact k.cls | exact k.ns | exact k.dsc | exact k.ini | exact k.lt | exact k.cell | exact gi | exact gj)) | ((with_reducible refine' m_loadPart D9 ?hm ?_); (case hm => (repeat (first | exact List.Mem.head _ | apply List.Mem.tail)))) | ((with_reducible refine' m_load D9 ?hm ?_); (case hm => (repeat (first | exact List.Mem.head _ | apply List.Mem.tail)))) | ((with_reducible refine' m_alloc D9 ?ho ?_); (case ho => exact rfl); clear D9; intro a hN D9) | ((with_reducible refine' m_updPart D9 ?hp ?hf ?_); (case hp => (repeat (first | exact Put.here | apply Put.there))); (case hf => exact rfl); clear D9; intro hN D9; try dsimp only at D9) | ((with_reducible refine' m_upd D9 ?hp ?hf ?_); (case hp => (repeat (first | exact Put.here | apply Put.there))); (case hf => exact rfl); clear D9; intro hN D9; try dsimp only at D9) | ((with_reducible refine' m_loadC D9 ?hm ?_); (case hm => exact List.Mem.head _)) | ((with_reducible refine' m_loadK KX D9 ?hc ?e ?_); (case hc => first | exact chg0 | exact chg33 _); (case e => k_is)) | ((with_reducible refine' PySem.wpAny_ite_false ?zz ?_); (case zz => kernel_rfl!)) | ((with_reducible refine' PySem.wpAny_ite_true ?zz ?_); (case zz => kernel_rfl!)))
  dsimp only
  refine m_tlObj (k.up hk) (by kernel_rfl!) hga ?_
  repeat (first | with_reducible refine bq ?_ | with_reducible refine bq_go ?_ | with_reducible refine rv_go ?_ | with_reducible refine fin_done ?_ | with_reducible refine fin_again ?_ | with_reducible refine err_go ?_ | with_reducible refine rv_err ?_ | with_reducible refine wpAny_pure ?_ | with_reducible refine eq_in ?_ | with_reducible refine eq_go ?_ | ((with_reducible refine PySem.wpAny_enterFrame ?hl ?hd ?_); (case hl => exact (TW _ (lg_KK KX D9 (by first | exact chg0 | exact chg33 _))).nolimit); (case hd => exact Nat.le_of_ble_eq_true rfl)) | ((with_reducible refine' m_nsGetK KX D9 ?hc ?e ?_); (case hc => first | exact chg0 | exact chg33 _); (case e => k_is)) | ((with_reducible refine' m_nsSetNew D9 ?hs ?hr ?he ?_); (case hs => (repeat (first | exact Spl.here | apply Spl.there))); (case hr => kernel_rfl!); (case he => (intro hh kt; kernel_rfl!)); clear D9; intro hh kt hN D9; (try simp only [List.cons_append, List.nil_append] at D9)) | ((with_reducible refine' m_nsSetMod D9 ?hs ?hr ?he ?_); (case hs => (repeat (first | exact Spl.here | apply Spl.there))); (case hr => kernel_rfl!); (case he => (intro hh kt; kernel_rfl!)); clear D9; intro hN D9; (try simp only [List.cons_append, List.nil_append] at D9)) | ((with_reducible refine' m_nsDel D9 ?hs ?hh ?he ?_); (case hs => (repeat (first | exact Spl.here | apply Spl.there))); (case hh => kernel_rfl!); (case he => kernel_rfl!); clear D9; intro hN D9; (try simp only [List.cons_append, List.nil_append] at D9)) | ((with_reducible refine' m_nsGet (rv := none) D9 ?hm ?e ?_); (case hm => (repeat (first | exact List.Mem.head _ | apply List.Mem.tail))); (case e => kernel_rfl!)) | with_reducible refine wpAny_askSetting ?_ | with_reducible refine wpAny_point ?_ | with_reducible refine PyProof.Rows.lt_int ?_ | ((with_reducible refine callWith_F (q := 280) ?fnq ?_); (case fnq => exact ⟨_, _, _, _, lg_KK KX D9 chg0 _ _ (by k_is)⟩)) | ((with_reducible refine' m_nsL (rv := some (.ref ia)) hns ?ee ?_); (case ee => kernel_rfl!)) | ((with_reducible refine' m_nsL (rv := some (.ref ib)) hns ?ee ?_); (case ee => kernel_rfl!)) | ((first | guard_hyp gan | guard_hyp k); with_reducible refine te_in' ?_) | with_reducible refine te_go ?_ | ((first | guard_hyp gan | guard_hyp k); with_reducible refine aq_in ?_) | with_reducible refine aq_go ?_ | with_reducible refine ae_go ?_ | ((first | guard_hyp gan | guard_hyp k); with_reducible refine wpAny_of_eq (by assumption) ?_) | ((first | guard_hyp gan | guard_hyp k); with_reducible refine m_peek KX D9 chg0 (by assumption) ?_) | wp_delta | with_reducible refine wpAny_holding ?_ | with_reducible refine wpAny_standAt ?_ | with_reducible refine wpAny_rule ?_ | with_reducible refine wpAny_fresh' ?_ | ((first | guard_hyp gan | guard_hyp k); with_reducible refine te_in ?_) | ((with_reducible refine' wpAny_load (D9.keep _ _ ?ko nochg) ?_); (case ko => with_reducible first | exact gan | exact gbt | exact gsl | exact gst | exact gI | exact gL | exact gG | exact gE | exact gM | exact gN | exact k.cls | exact k.ns | exact k.dsc | exact k.ini | exact k.lt | exact k.cell | exact gi | exact gj)) | ((with_reducible refine' wpAny_loadPart (D9.keep _ _ ?ko nochg) ?_); (case ko => with_reducible first | exact gan | exact gbt | exact gsl | exact gst | exact gI | exact gL | exact gG | exact gE | exact gM | exact gN | exact k.cls | exact k.ns | exact k.dsc | exact k.ini | exact k.lt | exact k.cell | exact gi | exact gj)) | ((with_reducible refine' m_loadPart D9 ?hm ?_); (case hm => (repeat (first | exact List.Mem.head _ | apply List.Mem.tail)))) | ((with_reducible refine' m_load D9 ?hm ?_); (case hm => (repeat (first | exact List.Mem.head _ | apply List.Mem.tail)))) | ((with_reducible refine' m_alloc D9 ?ho ?_); (case ho => exact rfl); clear D9; intro a hN D9) | ((with_reducible refine' m_updPart D9 ?hp ?hf ?_); (case hp => (repeat (first | exact Put.here | apply Put.there))); (case hf => exact rfl); clear D9; intro hN D9; try dsimp only at D9) | ((with_reducible refine' m_upd D9 ?hp ?hf ?_); (case hp => (repeat (first | exact Put.here | apply Put.there))); (case hf => exact rfl); clear D9; intro hN D9; try dsimp only at D9) | ((with_reducible refine' m_loadC D9 ?hm ?_); (case hm => exact List.Mem.head _)) | ((with_reducible refine' m_loadK KX D9 ?hc ?e ?_); (case hc => first | exact chg0 | exact chg33 _); (case e => k_is)) | ((with_reducible refine' PySem.wpAny_ite_false ?zz ?_); (case zz => kernel_rfl!)) | ((with_reducible refine' PySem.wpAny_ite_true ?zz ?_); (case zz => kernel_rfl!)))
  refine slot_c (lg_KK KX D9 chg0) (k.up hk) (hk _ _ gb) fun tk2 => ?_
  (try dsimp only)
  repeat (first | with_reducible refine bq ?_ | with_reducible refine bq_go ?_ | with_reducible refine rv_go ?_ | with_reducible refine fin_done ?_ | with_reducible refine fin_again ?_ | with_reducible refine err_go ?_ | with_reducible refine rv_err ?_ | with_reducible refine wpAny_pure ?_ | with_reducible refine eq_in ?_ | with_reducible refine eq_go ?_ | ((with_reducible refine PySem.wpAny_enterFrame ?hl ?hd ?_); (case hl => exact (TW _ (lg_KK KX D9 (by first | exact chg0 | exact chg33 _))).nolimit); (case hd => exact Nat.le_of_ble_eq_true rfl)) | ((with_reducible refine' m_nsGetK KX D9 ?hc ?e ?_); (case hc => first | exact chg0 | exact chg33 _); (case e => k_is)) | ((with_reducible refine' m_nsSetNew D9 ?hs ?hr ?he ?_); (case hs => (repeat (first | exact Spl.here | apply Spl.there))); (case hr => kernel_rfl!); (case he => (intro hh kt; kernel_rfl!)); clear D9; intro hh kt hN D9; (try simp only [List.cons_append, List.nil_append] at D9)) | ((with_reducible refine' m_nsSetMod D9 ?hs ?hr ?he ?_); (case hs => (repeat (first | exact Spl.here | apply Spl.there))); (case hr => kernel_rfl!); (case he => (intro hh kt; kernel_rfl!)); clear D9; intro hN D9; (try simp only [List.cons_append, List.nil_append] at D9)) | ((with_reducible refine' m_nsDel D9 ?hs ?hh ?he ?_); (case hs => (repeat (first | exact Spl.here | apply Spl.there))); (case hh => kernel_rfl!); (case he => kernel_rfl!); clear D9; intro hN D9; (try simp only [List.cons_append, List.nil_append] at D9)) | ((with_reducible refine' m_nsGet (rv := none) D9 ?hm ?e ?_); (case hm => (repeat (first | exact List.Mem.head _ | apply List.Mem.tail))); (case e => kernel_rfl!)) | with_reducible refine wpAny_askSetting ?_ | with_reducible refine wpAny_point ?_ | with_reducible refine PyProof.Rows.lt_int ?_ | ((with_reducible refine callWith_F (q := 280) ?fnq ?_); (case fnq => exact ⟨_, _, _, _, lg_KK KX D9 chg0 _ _ (by k_is)⟩)) | ((with_reducible refine' m_nsL (rv := some (.ref ia)) hns ?ee ?_); (case ee => kernel_rfl!)) | ((with_reducible refine' m_nsL (rv := some (.ref ib)) hns ?ee ?_); (case ee => kernel_rfl!)) | ((first | guard_hyp gan | guard_hyp k); with_reducible refine te_in' ?_) | with_reducible refine te_go ?_ | ((first | guard_hyp gan | guard_hyp k); with_reducible refine aq_in ?_) | with_reducible refine aq_go ?_ | with_reducible refine ae_go ?_ | ((first | guard_hyp gan | guard_hyp k); with_reducible refine wpAny_of_eq (by assumption) ?_) | ((first | guard_hyp gan | guard_hyp k); with_reducible refine m_peek KX D9 chg0 (by assumption) ?_) | wp_delta | with_reducible refine wpAny_holding ?_ | with_reducible refine wpAny_standAt ?_ | with_reducible refine wpAny_rule ?_ | with_reducible refine wpAny_fresh' ?_ | ((first | guard_hyp gan | guard_hyp k); with_reducible refine te_in ?_) | ((with_reducible refine' wpAny_load (D9.keep _ _ ?ko nochg) ?_); (case ko => with_reducible first | exact gan | exact gbt | exact gsl | exact gst | exact gI | exact gL | exact gG | exact gE | exact gM | exact gN | exact k.cls | exact k.ns | exact k.dsc | exact k.ini | exact k.lt | exact k.cell | exact gi | exact gj)) | ((with_reducible refine' wpAny_loadPart (D9.keep _ _ ?ko nochg) ?_); (case ko => with_reducible first | exact gan | exact gbt | exact gsl | exact gst | exact gI | exact gL | exact gG | exact gE | exact gM | exact gN | exact k.cls | exact k.ns | exact k.dsc | exact k.ini | exact k.lt | exact k.cell | exact gi | exact gj)) | ((with_reducible refine' m_loadPart D9 ?hm ?_); (case hm => (repeat (first | exact List.Mem.head _ | apply List.Mem.tail)))) | ((with_reducible refine' m_load D9 ?hm ?_); (case hm => (repeat (first | exact List.Mem.head _ | apply List.Mem.tail)))) | ((with_reducible refine' m_alloc D9 ?ho ?_); (case ho => exact rfl); clear D9; intro a hN D9) | ((with_reducible refine' m_updPart D9 ?hp ?hf ?_); (case hp => (repeat (first | exact Put.here | apply Put.there))); (case hf => exact rfl); clear D9; intro hN D9; try dsimp only at D9) | ((with_reducible refine' m_upd D9 ?hp ?hf ?_); (case hp => (repeat (first | exact Put.here | apply Put.there))); (case hf => exact rfl); clear D9; intro hN D9; try dsimp only at D9) | ((with_reducible refine' m_loadC D9 ?hm ?_); (case hm => exact List.Mem.head _)) | ((with_reducible refine' m_loadK KX D9 ?hc ?e ?_); (case hc => first | exact chg0 | exact chg33 _); (case e => k_is)) | ((with_reducible refine' PySem.wpAny_ite_false ?zz ?_); (case zz => kernel_rfl!)) | ((with_reducible refine' PySem.wpAny_ite_true ?zz ?_); (case zz => kernel_rfl!)))
  refine ⟨⟨_, _, _, _, lg_KK KX D9 chg0 280 _ (by k_is)⟩, ?_⟩
  refine compare_c TW (lg_KK KX D9 chg0) ⟨rfl, Nat.le_of_ble_eq_true rfl, Nat.le_of_ble_eq_true rfl⟩ (hk _ _ hr₁) (hk _ _ hr₂) hv₁ hv₂ hk₁ hk₂ ?_
  intro hN4 tk4 t5 up4
  replace hk : Up h hN4 := fun b o e => up4 _ _ (hk b o e)
  clear D9
  have D9 : Lg h hN4 [] [] := ⟨fun b o e _ => hk b o e, fun _ hp => (nomatch hp), fun _ hp => (nomatch hp), List.nodup_nil⟩
  (try dsimp only)
  repeat (first | with_reducible refine bq ?_ | with_reducible refine bq_go ?_ | with_reducible refine rv_go ?_ | with_reducible refine fin_done ?_ | with_reducible refine fin_again ?_ | with_reducible refine err_go ?_ | with_reducible refine rv_err ?_ | with_reducible refine wpAny_pure ?_ | with_reducible refine eq_in ?_ | with_reducible refine eq_go ?_ | ((with_reducible refine PySem.wpAny_enterFrame ?hl ?hd ?_); (case hl => exact (TW _ (lg_KK KX D9 (by first | exact chg0 | exact chg33 _))).nolimit); (case hd => exact Nat.le_of_ble_eq_true rfl)) | ((with_reducible refine' m_nsGetK KX D9 ?hc ?e ?_); (case hc => first | exact chg0 | exact chg33 _); (case e => k_is)) | ((with_reducible refine' m_nsSetNew D9 ?hs ?hr ?he ?_); (case hs => (repeat (first | exact Spl.here | apply Spl.there))); (case hr => kernel_rfl!); (case he => (intro hh kt; kernel_rfl!)); clear D9; intro hh kt hN D9; (try simp only [List.cons_append, List.nil_append] at D9)) | ((with_reducible refine' m_nsSetMod D9 ?hs ?hr ?he ?_); (case hs => (repeat (first | exact Spl.here | apply Spl.there))); (case hr => kernel_rfl!); (case he => (intro hh kt; kernel_rfl!)); clear D9; intro hN D9; (try simp only [List.cons_append, List.nil_append] at D9)) | ((with_reducible refine' m_nsDel D9 ?hs ?hh ?he ?_); (case hs => (repeat (first | exact Spl.here | apply Spl.there))); (case hh => kernel_rfl!); (case he => kernel_rfl!); clear D9; intro hN D9; (try simp only [List.cons_append, List.nil_append] at D9)) | ((with_reducible refine' m_nsGet (rv := none) D9 ?hm ?e ?_); (case hm => (repeat (first | exact List.Mem.head _ | apply List.Mem.tail))); (case e => kernel_rfl!)) | with_reducible refine wpAny_askSetting ?_ | with_reducible refine wpAny_point ?_ | with_reducible refine PyProof.Rows.lt_int ?_ | ((with_reducible refine callWith_F (q := 280) ?fnq ?_); (case fnq => exact ⟨_, _, _, _, lg_KK KX D9 chg0 _ _ (by k_is)⟩)) | ((with_reducible refine' m_nsL (rv := some (.ref ia)) hns ?ee ?_); (case ee => kernel_rfl!)) | ((with_reducible refine' m_nsL (rv := some (.ref ib)) hns ?ee ?_); (case ee => kernel_rfl!)) | ((first | guard_hyp gan | guard_hyp k); with_reducible refine te_in' ?_) | with_reducible refine te_go ?_ | ((first | guard_hyp gan | guard_hyp k); with_reducible refine aq_in ?_) | with_reducible refine aq_go ?_ | with_reducible refine ae_go ?_ | ((first | guard_hyp gan | guard_hyp k); with_reducible refine wpAny_of_eq (by assumption) ?_) | ((first | guard_hyp gan | guard_hyp k); with_reducible refine m_peek KX D9 chg0 (by assumption) ?_) | wp_delta | with_reducible refine wpAny_holding ?_ | with_reducible refine wpAny_standAt ?_ | with_reducible refine wpAny_rule ?_ | with_reducible refine wpAny_fresh' ?_ | ((first | guard_hyp gan | guard_hyp k); with_reducible refine te_in ?_) | ((with_reducible refine' wpAny_load (D9.keep _ _ ?ko nochg) ?_); (case ko => with_reducible first | exact gan | exact gbt | exact gsl | exact gst | exact gI | exact gL | exact gG | exact gE | exact gM | exact gN | exact k.cls | exact k.ns | exact k.dsc | exact k.ini | exact k.lt | exact k.cell | exact gi | exact gj)) | ((with_reducible refine' wpAny_loadPart (D9.keep _ _ ?ko nochg) ?_); (case ko => with_reducible first | exact gan | exact gbt | exact gsl | exact gst | exact gI | exact gL | exact gG | exact gE | exact gM | exact gN | exact k.cls | exact k.ns | exact k.dsc | exact k.ini | exact k.lt | exact k.cell | exact gi | exact gj)) | ((with_reducible refine' m_loadPart D9 ?hm ?_); (case hm => (repeat (first | exact List.Mem.head _ | apply List.Mem.tail)))) | ((with_reducible refine' m_load D9 ?hm ?_); (case hm => (repeat (first | exact List.Mem.head _ | apply List.Mem.tail)))) | ((with_reducible refine' m_alloc D9 ?ho ?_); (case ho => exact rfl); clear D9; intro a hN D9) | ((with_reducible refine' m_updPart D9 ?hp ?hf ?_); (case hp => (repeat (first | exact Put.here | apply Put.there))); (case hf => exact rfl); clear D9; intro hN D9; try dsimp only at D9) | ((with_reducible refine' m_upd D9 ?hp ?hf ?_); (case hp => (repeat (first | exact Put.here | apply Put.there))); (case hf => exact rfl); clear D9; intro hN D9; try dsimp only at D9) | ((with_reducible refine' m_loadC D9 ?hm ?_); (case hm => exact List.Mem.head _)) | ((with_reducible refine' m_loadK KX D9 ?hc ?e ?_); (case hc => first | exact chg0 | exact chg33 _); (case e => k_is)) | ((with_reducible refine' PySem.wpAny_ite_false ?zz ?_); (case zz => kernel_rfl!)) | ((with_reducible refine' PySem.wpAny_ite_true ?zz ?_); (case zz => kernel_rfl!)))
  exact hQ _ _ hk
theorem lt_c {w : World} {p : Program} {loose : List Str} {mg mb : Str → Option Value} {A : Around} {Q : Bool → Shared → Prop} {h : Heap} {g : Array GenState} {d : Drawn} {t : Nat} {os : OsState} {aK ia ib r₁ r₂ : Addr} {x : KDat} {k1 v1 k2 v2 : Str} {t1 t2 t3 t4 : Tok}
    (TW : Tops w p loose mg mb) (KX : (KK w.params).In h) (RA : Room 5 A) (k : KOk h aK x) (Ia : InstK h aK ia (.ref r₁)) (Ib : InstK h aK ib (.ref r₂))
    (hr₁ : h.get? r₁ = some (tupO [.str k1 t1, .str v1 t2])) (hr₂ : h.get? r₂ = some (tupO [.str k2 t3, .str v2 t4])) (hv₁ : okS v1) (hv₂ : okS v2) (hk₁ : k1 ∈ NM) (hk₂ : k2 ∈ NM)
    (hQ : ∀ h' tk', Up h h' → Q (decide (cmpv k1 v1 k2 v2 < 0)) ⟨h', g, d, tk', os⟩) :
    wpAny (model PW w) A (keyLt' oneType' (.ref ia) (.ref ib)) Q (fun _ _ => False) ⟨h, g, d, t, os⟩ := by
  rw [keyLt'_oneType, oneLt'_eq, if_pos rfl]
  refine wpAny_bind (wpAny_cRoomFor (by have := RA.units; show A.units < 9900; omega) ?_)
  refine wpAny_bind ?_
  simp only [callSpecialIfBound?, bindSpecialIfBound?]
  refine wpAny_holding (wpAny_bind (wpAny_bind ?_))
  refine lt_spec k Ia ?_
  refine wpAny_bind (wpAny_askSetting (wpAny_ite ?_))
  have fin : ∀ Q' : Option Value → Shared → Prop, (∀ h' tk', Up h h' → Q' (some (.bool (decide (cmpv k1 v1 k2 v2 < 0)))) ⟨h', g, d, tk', os⟩) → wpAny (model PW w) A (call (.ref x.fL) ([.ref ia] ++ [.ref ib]) >>= fun v => pure (some v)) Q' (fun _ _ => False) ⟨h, g, d, t, os⟩ := fun Q' hq => wpAny_bind (ltf_c TW KX (RA.less (by decide)) k Ia Ib hr₁ hr₂ hv₁ hv₂ hk₁ hk₂ fun h' tk' u => wpAny_pure (hq h' tk' u))
  have hq : ∀ h' tk', Up h h' → wpAny (model PW w) A (truthOfDropped (.bool (decide (cmpv k1 v1 k2 v2 < 0)))) Q (fun _ _ => False) ⟨h', g, d, tk', os⟩ := by
    intro h' tk' u
    exact wpAny_truthy_bool (hQ h' tk' u)
  have bnd : ∀ (Q' : (Value × List Value) → Shared → Prop) (E' : Value → Shared → Prop), Q' (.ref x.fL, [.ref ia]) ⟨h, g, d, t, os⟩ → wpAny (model PW w) A (bindSpecial (.ref x.fL) (.ref ia)) Q' E' ⟨h, g, d, t, os⟩ := by
    intro Q' E' hq'
    unfold bindSpecial
    refine wpAny_bind (wpAny_typeOf_ref k.lt ?_)
    rw [if_pos (by kernel_rfl!)]
    exact wpAny_pure hq'
  split
  · refine wpAny_bind (bnd _ _ (wpAny_pure ?_))
    exact fin _ fun h' tk' u => (by exact hq h' tk' u)
  · refine wpAny_tryCatch (wpAny_bind (bnd _ _ (wpAny_pure ?_)))
    exact fin _ fun h' tk' u => (by exact hq h' tk' u)
theorem new_check {w : World} {A : Around} {Q : Unit → Shared → Prop} {E : Value → Shared → Prop} {h : Heap} {g : Array GenState} {d : Drawn} {t : Nat} {os : OsState} {aK : Addr} {x : KDat} {ib : Addr} (KX : (KK w.params).In h) (k : KOk h aK x)
    (hQ : Q () ⟨h, g, d, t, os⟩) : wpAny (model PW w) A (checkBuiltinCall "object.__new__" ⟨[.ref aK, .ref ib], []⟩) Q E ⟨h, g, d, t, os⟩ := by
  have D9 := Lg.start h
  unfold checkBuiltinCall
  have e1 : builtinKind "object.__new__" = some .builtinFn := by decide +kernel
  have e2 : splitId "object.__new__" = some ("object", "__new__") := by decide +kernel
  rw [e1, e2]
  dsimp only
  repeat (first | with_reducible refine bq ?_ | with_reducible refine bq_go ?_ | with_reducible refine rv_go ?_ | with_reducible refine fin_done ?_ | with_reducible refine fin_again ?_ | with_reducible refine err_go ?_ | with_reducible refine rv_err ?_ | with_reducible refine wpAny_pure ?_ | with_reducible refine eq_in ?_ | with_reducible refine eq_go ?_ | ((with_reducible refine PySem.wpAny_enterFrame ?hl ?hd ?_); (case hl => exact (TW _ (lg_KK KX D9 (by first | exact chg0 | exact chg33 _))).nolimit); (case hd => exact Nat.le_of_ble_eq_true rfl)) | ((with_reducible refine' m_nsGetK KX D9 ?hc ?e ?_); (case hc => first | exact chg0 | exact chg33 _); (case e => k_is)) | ((with_reducible refine' m_nsSetNew D9 ?hs ?hr ?he ?_); (case hs => (repeat (first | exact Spl.here | apply Spl.there))); (case hr => kernel_rfl!); (case he => (intro hh kt; kernel_rfl!)); clear D9; intro hh kt hN D9; (try simp only [List.cons_append, List.nil_append] at D9)) | ((with_reducible refine' m_nsSetMod D9 ?hs ?hr ?he ?_); (case hs => (repeat (first | exact Spl.here | apply Spl.there))); (case hr => kernel_rfl!); (case he => (intro hh kt; kernel_rfl!)); clear D9; intro hN D9; (try simp only [List.cons_append, List.nil_append] at D9)) | ((with_reducible refine' m_nsDel D9 ?hs ?hh ?he ?_); (case hs => (repeat (first | exact Spl.here | apply Spl.there))); (case hh => kernel_rfl!); (case he => kernel_rfl!); clear D9; intro hN D9; (try simp only [List.cons_append, List.nil_append] at D9)) | ((with_reducible refine' m_nsGet (rv := none) D9 ?hm ?e ?_); (case hm => (repeat (first | exact List.Mem.head _ | apply List.Mem.tail))); (case e => kernel_rfl!)) | with_reducible refine wpAny_askSetting ?_ | with_reducible refine wpAny_point ?_ | with_reducible refine PyProof.Rows.lt_int ?_ | ((with_reducible refine callWith_F (q := 280) ?fnq ?_); (case fnq => exact ⟨_, _, _, _, lg_KK KX D9 chg0 _ _ (by k_is)⟩)) | ((with_reducible refine' m_nsL (rv := some (.ref ia)) hns ?ee ?_); (case ee => kernel_rfl!)) | ((with_reducible refine' m_nsL (rv := some (.ref ib)) hns ?ee ?_); (case ee => kernel_rfl!)) | ((first | guard_hyp gan | guard_hyp k); with_reducible refine te_in' ?_) | with_reducible refine te_go ?_ | ((first | guard_hyp gan | guard_hyp k); with_reducible refine aq_in ?_) | with_reducible refine aq_go ?_ | with_reducible refine ae_go ?_ | ((first | guard_hyp gan | guard_hyp k); with_reducible refine wpAny_of_eq (by assumption) ?_) | ((first | guard_hyp gan | guard_hyp k); with_reducible refine m_peek KX D9 chg0 (by assumption) ?_) | wp_delta | with_reducible refine wpAny_holding ?_ | with_reducible refine wpAny_standAt ?_ | with_reducible refine wpAny_rule ?_ | with_reducible refine wpAny_fresh' ?_ | ((first | guard_hyp gan | guard_hyp k); with_reducible refine te_in ?_) | ((with_reducible refine' wpAny_load (D9.keep _ _ ?ko nochg) ?_); (case ko => with_reducible first | exact gan | exact gbt | exact gsl | exact gst | exact gI | exact gL | exact gG | exact gE | exact gM | exact gN | exact k.cls | exact k.ns | exact k.dsc | exact k.ini | exact k.lt | exact k.cell | exact gi | exact gj)) | ((with_reducible refine' wpAny_loadPart (D9.keep _ _ ?ko nochg) ?_); (case ko => with_reducible first | exact gan | exact gbt | exact gsl | exact gst | exact gI | exact gL | exact gG | exact gE | exact gM | exact gN | exact k.cls | exact k.ns | exact k.dsc | exact k.ini | exact k.lt | exact k.cell | exact gi | exact gj)) | ((with_reducible refine' m_loadPart D9 ?hm ?_); (case hm => (repeat (first | exact List.Mem.head _ | apply List.Mem.tail)))) | ((with_reducible refine' m_load D9 ?hm ?_); (case hm => (repeat (first | exact List.Mem.head _ | apply List.Mem.tail)))) | ((with_reducible refine' m_alloc D9 ?ho ?_); (case ho => exact rfl); clear D9; intro a hN D9) | ((with_reducible refine' m_updPart D9 ?hp ?hf ?_); (case hp => (repeat (first | exact Put.here | apply Put.there))); (case hf => exact rfl); clear D9; intro hN D9; try dsimp only at D9) | ((with_reducible refine' m_upd D9 ?hp ?hf ?_); (case hp => (repeat (first | exact Put.here | apply Put.there))); (case hf => exact rfl); clear D9; intro hN D9; try dsimp only at D9) | ((with_reducible refine' m_loadC D9 ?hm ?_); (case hm => exact List.Mem.head _)) | ((with_reducible refine' m_loadK KX D9 ?hc ?e ?_); (case hc => first | exact chg0 | exact chg33 _); (case e => k_is)) | ((with_reducible refine' PySem.wpAny_ite_false ?zz ?_); (case zz => kernel_rfl!)) | ((with_reducible refine' PySem.wpAny_ite_true ?zz ?_); (case zz => kernel_rfl!)))
  have hSO : isSubtype (.type "object") (.type "object") = pure true := by rw [isSubtype_type]; kernel_rfl
  unfold isSubtype
  repeat (first | with_reducible refine bq ?_ | with_reducible refine bq_go ?_ | with_reducible refine rv_go ?_ | with_reducible refine fin_done ?_ | with_reducible refine fin_again ?_ | with_reducible refine err_go ?_ | with_reducible refine rv_err ?_ | with_reducible refine wpAny_pure ?_ | with_reducible refine eq_in ?_ | with_reducible refine eq_go ?_ | ((with_reducible refine PySem.wpAny_enterFrame ?hl ?hd ?_); (case hl => exact (TW _ (lg_KK KX D9 (by first | exact chg0 | exact chg33 _))).nolimit); (case hd => exact Nat.le_of_ble_eq_true rfl)) | ((with_reducible refine' m_nsGetK KX D9 ?hc ?e ?_); (case hc => first | exact chg0 | exact chg33 _); (case e => k_is)) | ((with_reducible refine' m_nsSetNew D9 ?hs ?hr ?he ?_); (case hs => (repeat (first | exact Spl.here | apply Spl.there))); (case hr => kernel_rfl!); (case he => (intro hh kt; kernel_rfl!)); clear D9; intro hh kt hN D9; (try simp only [List.cons_append, List.nil_append] at D9)) | ((with_reducible refine' m_nsSetMod D9 ?hs ?hr ?he ?_); (case hs => (repeat (first | exact Spl.here | apply Spl.there))); (case hr => kernel_rfl!); (case he => (intro hh kt; kernel_rfl!)); clear D9; intro hN D9; (try simp only [List.cons_append, List.nil_append] at D9)) | ((with_reducible refine' m_nsDel D9 ?hs ?hh ?he ?_); (case hs => (repeat (first | exact Spl.here | apply Spl.there))); (case hh => kernel_rfl!); (case he => kernel_rfl!); clear D9; intro hN D9; (try simp only [List.cons_append, List.nil_append] at D9)) | ((with_reducible refine' m_nsGet (rv := none) D9 ?hm ?e ?_); (case hm => (repeat (first | exact List.Mem.head _ | apply List.Mem.tail))); (case e => kernel_rfl!)) | with_reducible refine wpAny_askSetting ?_ | with_reducible refine wpAny_point ?_ | with_reducible refine PyProof.Rows.lt_int ?_ | ((with_reducible refine callWith_F (q := 280) ?fnq ?_); (case fnq => exact ⟨_, _, _, _, lg_KK KX D9 chg0 _ _ (by k_is)⟩)) | ((with_reducible refine' m_nsL (rv := some (.ref ia)) hns ?ee ?_); (case ee => kernel_rfl!)) | ((with_reducible refine' m_nsL (rv := some (.ref ib)) hns ?ee ?_); (case ee => kernel_rfl!)) | ((first | guard_hyp gan | guard_hyp k); with_reducible refine te_in' ?_) | with_reducible refine te_go ?_ | ((first | guard_hyp gan | guard_hyp k); with_reducible refine aq_in ?_) | with_reducible refine aq_go ?_ | with_reducible refine ae_go ?_ | ((first | guard_hyp gan | guard_hyp k); with_reducible refine wpAny_of_eq (by assumption) ?_) | ((first | guard_hyp gan | guard_hyp k); with_reducible refine m_peek KX D9 chg0 (by assumption) ?_) | wp_delta | with_reducible refine wpAny_holding ?_ | with_reducible refine wpAny_standAt ?_ | with_reducible refine wpAny_rule ?_ | with_reducible refine wpAny_fresh' ?_ | ((first | guard_hyp gan | guard_hyp k); with_reducible refine te_in ?_) | ((with_reducible refine' wpAny_load (D9.keep _ _ ?ko nochg) ?_); (case ko => with_reducible first | exact gan | exact gbt | exact gsl | exact gst | exact gI | exact gL | exact gG | exact gE | exact gM | exact gN | exact k.cls | exact k.ns | exact k.dsc | exact k.ini | exact k.lt | exact k.cell | exact gi | exact gj)) | ((with_reducible refine' wpAny_loadPart (D9.keep _ _ ?ko nochg) ?_); (case ko => with_reducible first | exact gan | exact gbt | exact gsl | exact gst | exact gI | exact gL | exact gG | exact gE | exact gM | exact gN | exact k.cls | exact k.ns | exact k.dsc | exact k.ini | exact k.lt | exact k.cell | exact gi | exact gj)) | ((with_reducible refine' m_loadPart D9 ?hm ?_); (case hm => (repeat (first | exact List.Mem.head _ | apply List.Mem.tail)))) | ((with_reducible refine' m_load D9 ?hm ?_); (case hm => (repeat (first | exact List.Mem.head _ | apply List.Mem.tail)))) | ((with_reducible refine' m_alloc D9 ?ho ?_); (case ho => exact rfl); clear D9; intro a hN D9) | ((with_reducible refine' m_updPart D9 ?hp ?hf ?_); (case hp => (repeat (first | exact Put.here | apply Put.there))); (case hf => exact rfl); clear D9; intro hN D9; try dsimp only at D9) | ((with_reducible refine' m_upd D9 ?hp ?hf ?_); (case hp => (repeat (first | exact Put.here | apply Put.there))); (case hf => exact rfl); clear D9; intro hN D9; try dsimp only at D9) | ((with_reducible refine' m_loadC D9 ?hm ?_); (case hm => exact List.Mem.head _)) | ((with_reducible refine' m_loadK KX D9 ?hc ?e ?_); (case hc => first | exact chg0 | exact chg33 _); (case e => k_is)) | ((with_reducible refine' PySem.wpAny_ite_false ?zz ?_); (case zz => kernel_rfl!)) | ((with_reducible refine' PySem.wpAny_ite_true ?zz ?_); (case zz => kernel_rfl!)))
  exact hQ
theorem new_c {w : World} {p : Program} {loose : List Str} {mg mb : Str → Option Value} {A : Around} {Q E : Value → Shared → Prop} {h : Heap} {g : Array GenState} {d : Drawn} {t : Nat} {os : OsState} {aK : Addr} {x : KDat} {ib : Addr} (TW : Tops w p loose mg mb) (KX : (KK w.params).In h) (RA : Room 4 A) (k : KOk h aK x)
    (hQ : ∀ a h' tk', Up h h' → InstK h' aK a (.ref ib) → h.get? a = none → Q (.ref a) ⟨h', g, d, tk', os⟩) :
    wpAny (model PW w) A (call (.ref aK) [.ref ib]) Q E ⟨h, g, d, t, os⟩ := by
  refine weaken4 RA ?_
  refine wpAny_mono (E := fun _ _ => False) (Q := Q) ?_ (fun _ _ h => h) (fun _ _ h => h.elim)
  have D9 := Lg.start h
  refine call_q (tree_q ?_)
  show wpAny _ _ (callAny (.ref aK) _) _ _ _
  unfold callAny
  repeat (first | with_reducible refine bq ?_ | with_reducible refine bq_go ?_ | with_reducible refine rv_go ?_ | with_reducible refine fin_done ?_ | with_reducible refine fin_again ?_ | with_reducible refine err_go ?_ | with_reducible refine rv_err ?_ | with_reducible refine wpAny_pure ?_ | with_reducible refine eq_in ?_ | with_reducible refine eq_go ?_ | ((with_reducible refine PySem.wpAny_enterFrame ?hl ?hd ?_); (case hl => exact (TW _ (lg_KK KX D9 (by first | exact chg0 | exact chg33 _))).nolimit); (case hd => exact Nat.le_of_ble_eq_true rfl)) | ((with_reducible refine' m_nsGetK KX D9 ?hc ?e ?_); (case hc => first | exact chg0 | exact chg33 _); (case e => k_is)) | ((with_reducible refine' m_nsSetNew D9 ?hs ?hr ?he ?_); (case hs => (repeat (first | exact Spl.here | apply Spl.there))); (case hr => kernel_rfl!); (case he => (intro hh kt; kernel_rfl!)); clear D9; intro hh kt hN D9; (try simp only [List.cons_append, List.nil_append] at D9)) | ((with_reducible refine' m_nsSetMod D9 ?hs ?hr ?he ?_); (case hs => (repeat (first | exact Spl.here | apply Spl.there))); (case hr => kernel_rfl!); (case he => (intro hh kt; kernel_rfl!)); clear D9; intro hN D9; (try simp only [List.cons_append, List.nil_append] at D9)) | ((with_reducible refine' m_nsDel D9 ?hs ?hh ?he ?_); (case hs => (repeat (first | exact Spl.here | apply Spl.there))); (case hh => kernel_rfl!); (case he => kernel_rfl!); clear D9; intro hN D9; (try simp only [List.cons_append, List.nil_append] at D9)) | ((with_reducible refine' m_nsGet (rv := none) D9 ?hm ?e ?_); (case hm => (repeat (first | exact List.Mem.head _ | apply List.Mem.tail))); (case e => kernel_rfl!)) | with_reducible refine wpAny_askSetting ?_ | with_reducible refine wpAny_point ?_ | with_reducible refine PyProof.Rows.lt_int ?_ | ((with_reducible refine callWith_F (q := 280) ?fnq ?_); (case fnq => exact ⟨_, _, _, _, lg_KK KX D9 chg0 _ _ (by k_is)⟩)) | ((with_reducible refine' m_nsL (rv := some (.ref ia)) hns ?ee ?_); (case ee => kernel_rfl!)) | ((with_reducible refine' m_nsL (rv := some (.ref ib)) hns ?ee ?_); (case ee => kernel_rfl!)) | ((first | guard_hyp gan | guard_hyp k); with_reducible refine te_in' ?_) | with_reducible refine te_go ?_ | ((first | guard_hyp gan | guard_hyp k); with_reducible refine aq_in ?_) | with_reducible refine aq_go ?_ | with_reducible refine ae_go ?_ | ((first | guard_hyp gan | guard_hyp k); with_reducible refine wpAny_of_eq (by assumption) ?_) | ((first | guard_hyp gan | guard_hyp k); with_reducible refine m_peek KX D9 chg0 (by assumption) ?_) | wp_delta | with_reducible refine wpAny_holding ?_ | with_reducible refine wpAny_standAt ?_ | with_reducible refine wpAny_rule ?_ | with_reducible refine wpAny_fresh' ?_ | ((first | guard_hyp gan | guard_hyp k); with_reducible refine te_in ?_) | ((with_reducible refine' wpAny_load (D9.keep _ _ ?ko nochg) ?_); (case ko => with_reducible first | exact gan | exact gbt | exact gsl | exact gst | exact gI | exact gL | exact gG | exact gE | exact gM | exact gN | exact k.cls | exact k.ns | exact k.dsc | exact k.ini | exact k.lt | exact k.cell | exact gi | exact gj)) | ((with_reducible refine' wpAny_loadPart (D9.keep _ _ ?ko nochg) ?_); (case ko => with_reducible first | exact gan | exact gbt | exact gsl | exact gst | exact gI | exact gL | exact gG | exact gE | exact gM | exact gN | exact k.cls | exact k.ns | exact k.dsc | exact k.ini | exact k.lt | exact k.cell | exact gi | exact gj)) | ((with_reducible refine' m_loadPart D9 ?hm ?_); (case hm => (repeat (first | exact List.Mem.head _ | apply List.Mem.tail)))) | ((with_reducible refine' m_load D9 ?hm ?_); (case hm => (repeat (first | exact List.Mem.head _ | apply List.Mem.tail)))) | ((with_reducible refine' m_alloc D9 ?ho ?_); (case ho => exact rfl); clear D9; intro a hN D9) | ((with_reducible refine' m_updPart D9 ?hp ?hf ?_); (case hp => (repeat (first | exact Put.here | apply Put.there))); (case hf => exact rfl); clear D9; intro hN D9; try dsimp only at D9) | ((with_reducible refine' m_upd D9 ?hp ?hf ?_); (case hp => (repeat (first | exact Put.here | apply Put.there))); (case hf => exact rfl); clear D9; intro hN D9; try dsimp only at D9) | ((with_reducible refine' m_loadC D9 ?hm ?_); (case hm => exact List.Mem.head _)) | ((with_reducible refine' m_loadK KX D9 ?hc ?e ?_); (case hc => first | exact chg0 | exact chg33 _); (case e => k_is)) | ((with_reducible refine' PySem.wpAny_ite_false ?zz ?_); (case zz => kernel_rfl!)) | ((with_reducible refine' PySem.wpAny_ite_true ?zz ?_); (case zz => kernel_rfl!)))
  refine wpAny_of_eq (a := some (.builtin "type.__call__")) (by unfold clsK; dsimp only; rw [typeLookup_type, builtinLookup_eq_fast]; kernel_rfl) ?_
  repeat (first | with_reducible refine bq ?_ | with_reducible refine bq_go ?_ | with_reducible refine rv_go ?_ | with_reducible refine fin_done ?_ | with_reducible refine fin_again ?_ | with_reducible refine err_go ?_ | with_reducible refine rv_err ?_ | with_reducible refine wpAny_pure ?_ | with_reducible refine eq_in ?_ | with_reducible refine eq_go ?_ | ((with_reducible refine PySem.wpAny_enterFrame ?hl ?hd ?_); (case hl => exact (TW _ (lg_KK KX D9 (by first | exact chg0 | exact chg33 _))).nolimit); (case hd => exact Nat.le_of_ble_eq_true rfl)) | ((with_reducible refine' m_nsGetK KX D9 ?hc ?e ?_); (case hc => first | exact chg0 | exact chg33 _); (case e => k_is)) | ((with_reducible refine' m_nsSetNew D9 ?hs ?hr ?he ?_); (case hs => (repeat (first | exact Spl.here | apply Spl.there))); (case hr => kernel_rfl!); (case he => (intro hh kt; kernel_rfl!)); clear D9; intro hh kt hN D9; (try simp only [List.cons_append, List.nil_append] at D9)) | ((with_reducible refine' m_nsSetMod D9 ?hs ?hr ?he ?_); (case hs => (repeat (first | exact Spl.here | apply Spl.there))); (case hr => kernel_rfl!); (case he => (intro hh kt; kernel_rfl!)); clear D9; intro hN D9; (try simp only [List.cons_append, List.nil_append] at D9)) | ((with_reducible refine' m_nsDel D9 ?hs ?hh ?he ?_); (case hs => (repeat (first | exact Spl.here | apply Spl.there))); (case hh => kernel_rfl!); (case he => kernel_rfl!); clear D9; intro hN D9; (try simp only [List.cons_append, List.nil_append] at D9)) | ((with_reducible refine' m_nsGet (rv := none) D9 ?hm ?e ?_); (case hm => (repeat (first | exact List.Mem.head _ | apply List.Mem.tail))); (case e => kernel_rfl!)) | with_reducible refine wpAny_askSetting ?_ | with_reducible refine wpAny_point ?_ | with_reducible refine PyProof.Rows.lt_int ?_ | ((with_reducible refine callWith_F (q := 280) ?fnq ?_); (case fnq => exact ⟨_, _, _, _, lg_KK KX D9 chg0 _ _ (by k_is)⟩)) | ((with_reducible refine' m_nsL (rv := some (.ref ia)) hns ?ee ?_); (case ee => kernel_rfl!)) | ((with_reducible refine' m_nsL (rv := some (.ref ib)) hns ?ee ?_); (case ee => kernel_rfl!)) | ((first | guard_hyp gan | guard_hyp k); with_reducible refine te_in' ?_) | with_reducible refine te_go ?_ | ((first | guard_hyp gan | guard_hyp k); with_reducible refine aq_in ?_) | with_reducible refine aq_go ?_ | with_reducible refine ae_go ?_ | ((first | guard_hyp gan | guard_hyp k); with_reducible refine wpAny_of_eq (by assumption) ?_) | ((first | guard_hyp gan | guard_hyp k); with_reducible refine m_peek KX D9 chg0 (by assumption) ?_) | wp_delta | with_reducible refine wpAny_holding ?_ | with_reducible refine wpAny_standAt ?_ | with_reducible refine wpAny_rule ?_ | with_reducible refine wpAny_fresh' ?_ | ((first | guard_hyp gan | guard_hyp k); with_reducible refine te_in ?_) | ((with_reducible refine' wpAny_load (D9.keep _ _ ?ko nochg) ?_); (case ko => with_reducible first | exact gan | exact gbt | exact gsl | exact gst | exact gI | exact gL | exact gG | exact gE | exact gM | exact gN | exact k.cls | exact k.ns | exact k.dsc | exact k.ini | exact k.lt | exact k.cell | exact gi | exact gj)) | ((with_reducible refine' wpAny_loadPart (D9.keep _ _ ?ko nochg) ?_); (case ko => with_reducible first | exact gan | exact gbt | exact gsl | exact gst | exact gI | exact gL | exact gG | exact gE | exact gM | exact gN | exact k.cls | exact k.ns | exact k.dsc | exact k.ini | exact k.lt | exact k.cell | exact gi | exact gj)) | ((with_reducible refine' m_loadPart D9 ?hm ?_); (case hm => (repeat (first | exact List.Mem.head _ | apply List.Mem.tail)))) | ((with_reducible refine' m_load D9 ?hm ?_); (case hm => (repeat (first | exact List.Mem.head _ | apply List.Mem.tail)))) | ((with_reducible refine' m_alloc D9 ?ho ?_); (case ho => exact rfl); clear D9; intro a hN D9) | ((with_reducible refine' m_updPart D9 ?hp ?hf ?_); (case hp => (repeat (first | exact Put.here | apply Put.there))); (case hf => exact rfl); clear D9; intro hN D9; try dsimp only at D9) | ((with_reducible refine' m_upd D9 ?hp ?hf ?_); (case hp => (repeat (first | exact Put.here | apply Put.there))); (case hf => exact rfl); clear D9; intro hN D9; try dsimp only at D9) | ((with_reducible refine' m_loadC D9 ?hm ?_); (case hm => exact List.Mem.head _)) | ((with_reducible refine' m_loadK KX D9 ?hc ?e ?_); (case hc => first | exact chg0 | exact chg33 _); (case e => k_is)) | ((with_reducible refine' PySem.wpAny_ite_false ?zz ?_); (case zz => kernel_rfl!)) | ((with_reducible refine' PySem.wpAny_ite_true ?zz ?_); (case zz => kernel_rfl!)))
  refine wpAny_of_eq (a := (.builtin "type.__call__", [.ref aK])) (by kernel_rfl) ?_
  repeat (first | with_reducible refine bq ?_ | with_reducible refine bq_go ?_ | with_reducible refine rv_go ?_ | with_reducible refine fin_done ?_ | with_reducible refine fin_again ?_ | with_reducible refine err_go ?_ | with_reducible refine rv_err ?_ | with_reducible refine wpAny_pure ?_ | with_reducible refine eq_in ?_ | with_reducible refine eq_go ?_ | ((with_reducible refine PySem.wpAny_enterFrame ?hl ?hd ?_); (case hl => exact (TW _ (lg_KK KX D9 (by first | exact chg0 | exact chg33 _))).nolimit); (case hd => exact Nat.le_of_ble_eq_true rfl)) | ((with_reducible refine' m_nsGetK KX D9 ?hc ?e ?_); (case hc => first | exact chg0 | exact chg33 _); (case e => k_is)) | ((with_reducible refine' m_nsSetNew D9 ?hs ?hr ?he ?_); (case hs => (repeat (first | exact Spl.here | apply Spl.there))); (case hr => kernel_rfl!); (case he => (intro hh kt; kernel_rfl!)); clear D9; intro hh kt hN D9; (try simp only [List.cons_append, List.nil_append] at D9)) | ((with_reducible refine' m_nsSetMod D9 ?hs ?hr ?he ?_); (case hs => (repeat (first | exact Spl.here | apply Spl.there))); (case hr => kernel_rfl!); (case he => (intro hh kt; kernel_rfl!)); clear D9; intro hN D9; (try simp only [List.cons_append, List.nil_append] at D9)) | ((with_reducible refine' m_nsDel D9 ?hs ?hh ?he ?_); (case hs => (repeat (first | exact Spl.here | apply Spl.there))); (case hh => kernel_rfl!); (case he => kernel_rfl!); clear D9; intro hN D9; (try simp only [List.cons_append, List.nil_append] at D9)) | ((with_reducible refine' m_nsGet (rv := none) D9 ?hm ?e ?_); (case hm => (repeat (first | exact List.Mem.head _ | apply List.Mem.tail))); (case e => kernel_rfl!)) | with_reducible refine wpAny_askSetting ?_ | with_reducible refine wpAny_point ?_ | with_reducible refine PyProof.Rows.lt_int ?_ | ((with_reducible refine callWith_F (q := 280) ?fnq ?_); (case fnq => exact ⟨_, _, _, _, lg_KK KX D9 chg0 _ _ (by k_is)⟩)) | ((with_reducible refine' m_nsL (rv := some (.ref ia)) hns ?ee ?_); (case ee => kernel_rfl!)) | ((with_reducible refine' m_nsL (rv := some (.ref ib)) hns ?ee ?_); (case ee => kernel_rfl!)) | ((first | guard_hyp gan | guard_hyp k); with_reducible refine te_in' ?_) | with_reducible refine te_go ?_ | ((first | guard_hyp gan | guard_hyp k); with_reducible refine aq_in ?_) | with_reducible refine aq_go ?_ | with_reducible refine ae_go ?_ | ((first | guard_hyp gan | guard_hyp k); with_reducible refine wpAny_of_eq (by assumption) ?_) | ((first | guard_hyp gan | guard_hyp k); with_reducible refine m_peek KX D9 chg0 (by assumption) ?_) | wp_delta | with_reducible refine wpAny_holding ?_ | with_reducible refine wpAny_standAt ?_ | with_reducible refine wpAny_rule ?_ | with_reducible refine wpAny_fresh' ?_ | ((first | guard_hyp gan | guard_hyp k); with_reducible refine te_in ?_) | ((with_reducible refine' wpAny_load (D9.keep _ _ ?ko nochg) ?_); (case ko => with_reducible first | exact gan | exact gbt | exact gsl | exact gst | exact gI | exact gL | exact gG | exact gE | exact gM | exact gN | exact k.cls | exact k.ns | exact k.dsc | exact k.ini | exact k.lt | exact k.cell | exact gi | exact gj)) | ((with_reducible refine' wpAny_loadPart (D9.keep _ _ ?ko nochg) ?_); (case ko => with_reducible first | exact gan | exact gbt | exact gsl | exact gst | exact gI | exact gL | exact gG | exact gE | exact gM | exact gN | exact k.cls | exact k.ns | exact k.dsc | exact k.ini | exact k.lt | exact k.cell | exact gi | exact gj)) | ((with_reducible refine' m_loadPart D9 ?hm ?_); (case hm => (repeat (first | exact List.Mem.head _ | apply List.Mem.tail)))) | ((with_reducible refine' m_load D9 ?hm ?_); (case hm => (repeat (first | exact List.Mem.head _ | apply List.Mem.tail)))) | ((with_reducible refine' m_alloc D9 ?ho ?_); (case ho => exact rfl); clear D9; intro a hN D9) | ((with_reducible refine' m_updPart D9 ?hp ?hf ?_); (case hp => (repeat (first | exact Put.here | apply Put.there))); (case hf => exact rfl); clear D9; intro hN D9; try dsimp only at D9) | ((with_reducible refine' m_upd D9 ?hp ?hf ?_); (case hp => (repeat (first | exact Put.here | apply Put.there))); (case hf => exact rfl); clear D9; intro hN D9; try dsimp only at D9) | ((with_reducible refine' m_loadC D9 ?hm ?_); (case hm => exact List.Mem.head _)) | ((with_reducible refine' m_loadK KX D9 ?hc ?e ?_); (case hc => first | exact chg0 | exact chg33 _); (case e => k_is)) | ((with_reducible refine' PySem.wpAny_ite_false ?zz ?_); (case zz => kernel_rfl!)) | ((with_reducible refine' PySem.wpAny_ite_true ?zz ?_); (case zz => kernel_rfl!)))
  have hTT : isSubtype (.type "type") (.type "type") = pure true := by rw [isSubtype_type]; kernel_rfl
  have typ : Looks (model PW w) h (isInstance (.ref aK) (.type "type")) true := by
    unfold isInstance
    exact ((Looks.ld k.cls).andThen .now).andThen (Looks.of_pure hTT)
  refine ⟨rfl, callb_at_q (Code.quiet_builtin _ (by decide +kernel)) entry_typeCall (check_slot tc_kind tc_split typ (tc_args _ _ _) ?_)⟩
  unfold Builtin.«type.__call__»
  repeat (first | with_reducible refine bq ?_ | with_reducible refine bq_go ?_ | with_reducible refine rv_go ?_ | with_reducible refine fin_done ?_ | with_reducible refine fin_again ?_ | with_reducible refine err_go ?_ | with_reducible refine rv_err ?_ | with_reducible refine wpAny_pure ?_ | with_reducible refine eq_in ?_ | with_reducible refine eq_go ?_ | ((with_reducible refine PySem.wpAny_enterFrame ?hl ?hd ?_); (case hl => exact (TW _ (lg_KK KX D9 (by first | exact chg0 | exact chg33 _))).nolimit); (case hd => exact Nat.le_of_ble_eq_true rfl)) | ((with_reducible refine' m_nsGetK KX D9 ?hc ?e ?_); (case hc => first | exact chg0 | exact chg33 _); (case e => k_is)) | ((with_reducible refine' m_nsSetNew D9 ?hs ?hr ?he ?_); (case hs => (repeat (first | exact Spl.here | apply Spl.there))); (case hr => kernel_rfl!); (case he => (intro hh kt; kernel_rfl!)); clear D9; intro hh kt hN D9; (try simp only [List.cons_append, List.nil_append] at D9)) | ((with_reducible refine' m_nsSetMod D9 ?hs ?hr ?he ?_); (case hs => (repeat (first | exact Spl.here | apply Spl.there))); (case hr => kernel_rfl!); (case he => (intro hh kt; kernel_rfl!)); clear D9; intro hN D9; (try simp only [List.cons_append, List.nil_append] at D9)) | ((with_reducible refine' m_nsDel D9 ?hs ?hh ?he ?_); (case hs => (repeat (first | exact Spl.here | apply Spl.there))); (case hh => kernel_rfl!); (case he => kernel_rfl!); clear D9; intro hN D9; (try simp only [List.cons_append, List.nil_append] at D9)) | ((with_reducible refine' m_nsGet (rv := none) D9 ?hm ?e ?_); (case hm => (repeat (first | exact List.Mem.head _ | apply List.Mem.tail))); (case e => kernel_rfl!)) | with_reducible refine wpAny_askSetting ?_ | with_reducible refine wpAny_point ?_ | with_reducible refine PyProof.Rows.lt_int ?_ | ((with_reducible refine callWith_F (q := 280) ?fnq ?_); (case fnq => exact ⟨_, _, _, _, lg_KK KX D9 chg0 _ _ (by k_is)⟩)) | ((with_reducible refine' m_nsL (rv := some (.ref ia)) hns ?ee ?_); (case ee => kernel_rfl!)) | ((with_reducible refine' m_nsL (rv := some (.ref ib)) hns ?ee ?_); (case ee => kernel_rfl!)) | ((first | guard_hyp gan | guard_hyp k); with_reducible refine te_in' ?_) | with_reducible refine te_go ?_ | ((first | guard_hyp gan | guard_hyp k); with_reducible refine aq_in ?_) | with_reducible refine aq_go ?_ | with_reducible refine ae_go ?_ | ((first | guard_hyp gan | guard_hyp k); with_reducible refine wpAny_of_eq (by assumption) ?_) | ((first | guard_hyp gan | guard_hyp k); with_reducible refine m_peek KX D9 chg0 (by assumption) ?_) | wp_delta | with_reducible refine wpAny_holding ?_ | with_reducible refine wpAny_standAt ?_ | with_reducible refine wpAny_rule ?_ | with_reducible refine wpAny_fresh' ?_ | ((first | guard_hyp gan | guard_hyp k); with_reducible refine te_in ?_) | ((with_reducible refine' wpAny_load (D9.keep _ _ ?ko nochg) ?_); (case ko => with_reducible first | exact gan | exact gbt | exact gsl | exact gst | exact gI | exact gL | exact gG | exact gE | exact gM | exact gN | exact k.cls | exact k.ns | exact k.dsc | exact k.ini | exact k.lt | exact k.cell | exact gi | exact gj)) | ((with_reducible refine' wpAny_loadPart (D9.keep _ _ ?ko nochg) ?_); (case ko => with_reducible first | exact gan | exact gbt | exact gsl | exact gst | exact gI | exact gL | exact gG | exact gE | exact gM | exact gN | exact k.cls | exact k.ns | exact k.dsc | exact k.ini | exact k.lt | exact k.cell | exact gi | exact gj)) | ((with_reducible refine' m_loadPart D9 ?hm ?_); (case hm => (repeat (first | exact List.Mem.head _ | apply List.Mem.tail)))) | ((with_reducible refine' m_load D9 ?hm ?_); (case hm => (repeat (first | exact List.Mem.head _ | apply List.Mem.tail)))) | ((with_reducible refine' m_alloc D9 ?ho ?_); (case ho => exact rfl); clear D9; intro a hN D9) | ((with_reducible refine' m_updPart D9 ?hp ?hf ?_); (case hp => (repeat (first | exact Put.here | apply Put.there))); (case hf => exact rfl); clear D9; intro hN D9; try dsimp only at D9) | ((with_reducible refine' m_upd D9 ?hp ?hf ?_); (case hp => (repeat (first | exact Put.here | apply Put.there))); (case hf => exact rfl); clear D9; intro hN D9; try dsimp only at D9) | ((with_reducible refine' m_loadC D9 ?hm ?_); (case hm => exact List.Mem.head _)) | ((with_reducible refine' m_loadK KX D9 ?hc ?e ?_); (case hc => first | exact chg0 | exact chg33 _); (case e => k_is)) | ((with_reducible refine' PySem.wpAny_ite_false ?zz ?_); (case zz => kernel_rfl!)) | ((with_reducible refine' PySem.wpAny_ite_true ?zz ?_); (case zz => kernel_rfl!)))
  refine call_q (callb_at_q (Code.quiet_builtin _ (by decide +kernel)) F.entry_object_new (new_check KX k ?_))
  unfold Builtin.«object.__new__»
  repeat (first | with_reducible refine bq ?_ | with_reducible refine bq_go ?_ | with_reducible refine rv_go ?_ | with_reducible refine fin_done ?_ | with_reducible refine fin_again ?_ | with_reducible refine err_go ?_ | with_reducible refine rv_err ?_ | with_reducible refine wpAny_pure ?_ | with_reducible refine eq_in ?_ | with_reducible refine eq_go ?_ | ((with_reducible refine PySem.wpAny_enterFrame ?hl ?hd ?_); (case hl => exact (TW _ (lg_KK KX D9 (by first | exact chg0 | exact chg33 _))).nolimit); (case hd => exact Nat.le_of_ble_eq_true rfl)) | ((with_reducible refine' m_nsGetK KX D9 ?hc ?e ?_); (case hc => first | exact chg0 | exact chg33 _); (case e => k_is)) | ((with_reducible refine' m_nsSetNew D9 ?hs ?hr ?he ?_); (case hs => (repeat (first | exact Spl.here | apply Spl.there))); (case hr => kernel_rfl!); (case he => (intro hh kt; kernel_rfl!)); clear D9; intro hh kt hN D9; (try simp only [List.cons_append, List.nil_append] at D9)) | ((with_reducible refine' m_nsSetMod D9 ?hs ?hr ?he ?_); (case hs => (repeat (first | exact Spl.here | apply Spl.there))); (case hr => kernel_rfl!); (case he => (intro hh kt; kernel_rfl!)); clear D9; intro hN D9; (try simp only [List.cons_append, List.nil_append] at D9)) | ((with_reducible refine' m_nsDel D9 ?hs ?hh ?he ?_); (case hs => (repeat (first | exact Spl.here | apply Spl.there))); (case hh => kernel_rfl!); (case he => kernel_rfl!); clear D9; intro hN D9; (try simp only [List.cons_append, List.nil_append] at D9)) | ((with_reducible refine' m_nsGet (rv := none) D9 ?hm ?e ?_); (case hm => (repeat (first | exact List.Mem.head _ | apply List.Mem.tail))); (case e => kernel_rfl!)) | with_reducible refine wpAny_askSetting ?_ | with_reducible refine wpAny_point ?_ | with_reducible refine PyProof.Rows.lt_int ?_ | ((with_reducible refine callWith_F (q := 280) ?fnq ?_); (case fnq => exact ⟨_, _, _, _, lg_KK KX D9 chg0 _ _ (by k_is)⟩)) | ((with_reducible refine' m_nsL (rv := some (.ref ia)) hns ?ee ?_); (case ee => kernel_rfl!)) | ((with_reducible refine' m_nsL (rv := some (.ref ib)) hns ?ee ?_); (case ee => kernel_rfl!)) | ((first | guard_hyp gan | guard_hyp k); with_reducible refine te_in' ?_) | with_reducible refine te_go ?_ | ((first | guard_hyp gan | guard_hyp k); with_reducible refine aq_in ?_) | with_reducible refine aq_go ?_ | with_reducible refine ae_go ?_ | ((first | guard_hyp gan | guard_hyp k); with_reducible refine wpAny_of_eq (by assumption) ?_) | ((first | guard_hyp gan | guard_hyp k); with_reducible refine m_peek KX D9 chg0 (by assumption) ?_) | wp_delta | with_reducible refine wpAny_holding ?_ | with_reducible refine wpAny_standAt ?_ | with_reducible refine wpAny_rule ?_ | with_reducible refine wpAny_fresh' ?_ | ((first | guard_hyp gan | guard_hyp k); with_reducible refine te_in ?_) | ((with_reducible refine' wpAny_load (D9.keep _ _ ?ko nochg) ?_); (case ko => with_reducible first | exact gan | exact gbt | exact gsl | exact gst | exact gI | exact gL | exact gG | exact gE | exact gM | exact gN | exact k.cls | exact k.ns | exact k.dsc | exact k.ini | exact k.lt | exact k.cell | exact gi | exact gj)) | ((with_reducible refine' wpAny_loadPart (D9.keep _ _ ?ko nochg) ?_); (case ko => with_reducible first | exact gan | exact gbt | exact gsl | exact gst | exact gI | exact gL | exact gG | exact gE | exact gM | exact gN | exact k.cls | exact k.ns | exact k.dsc | exact k.ini | exact k.lt | exact k.cell | exact gi | exact gj)) | ((with_reducible refine' m_loadPart D9 ?hm ?_); (case hm => (repeat (first | exact List.Mem.head _ | apply List.Mem.tail)))) | ((with_reducible refine' m_load D9 ?hm ?_); (case hm => (repeat (first | exact List.Mem.head _ | apply List.Mem.tail)))) | ((with_reducible refine' m_alloc D9 ?ho ?_); (case ho => exact rfl); clear D9; intro a hN D9) | ((with_reducible refine' m_updPart D9 ?hp ?hf ?_); (case hp => (repeat (first | exact Put.here | apply Put.there))); (case hf => exact rfl); clear D9; intro hN D9; try dsimp only at D9) | ((with_reducible refine' m_upd D9 ?hp ?hf ?_); (case hp => (repeat (first | exact Put.here | apply Put.there))); (case hf => exact rfl); clear D9; intro hN D9; try dsimp only at D9) | ((with_reducible refine' m_loadC D9 ?hm ?_); (case hm => exact List.Mem.head _)) | ((with_reducible refine' m_loadK KX D9 ?hc ?e ?_); (case hc => first | exact chg0 | exact chg33 _); (case e => k_is)) | ((with_reducible refine' PySem.wpAny_ite_false ?zz ?_); (case zz => kernel_rfl!)) | ((with_reducible refine' PySem.wpAny_ite_true ?zz ?_); (case zz => kernel_rfl!)))
  refine m_tlOwn (name := Str.ofString "__init__") (v := .ref x.fI) k (by kernel_rfl!) ?_
  repeat (first | with_reducible refine bq ?_ | with_reducible refine bq_go ?_ | with_reducible refine rv_go ?_ | with_reducible refine fin_done ?_ | with_reducible refine fin_again ?_ | with_reducible refine err_go ?_ | with_reducible refine rv_err ?_ | with_reducible refine wpAny_pure ?_ | with_reducible refine eq_in ?_ | with_reducible refine eq_go ?_ | ((with_reducible refine PySem.wpAny_enterFrame ?hl ?hd ?_); (case hl => exact (TW _ (lg_KK KX D9 (by first | exact chg0 | exact chg33 _))).nolimit); (case hd => exact Nat.le_of_ble_eq_true rfl)) | ((with_reducible refine' m_nsGetK KX D9 ?hc ?e ?_); (case hc => first | exact chg0 | exact chg33 _); (case e => k_is)) | ((with_reducible refine' m_nsSetNew D9 ?hs ?hr ?he ?_); (case hs => (repeat (first | exact Spl.here | apply Spl.there))); (case hr => kernel_rfl!); (case he => (intro hh kt; kernel_rfl!)); clear D9; intro hh kt hN D9; (try simp only [List.cons_append, List.nil_append] at D9)) | ((with_reducible refine' m_nsSetMod D9 ?hs ?hr ?he ?_); (case hs => (repeat (first | exact Spl.here | apply Spl.there))); (case hr => kernel_rfl!); (case he => (intro hh kt; kernel_rfl!)); clear D9; intro hN D9; (try simp only [List.cons_append, List.nil_append] at D9)) | ((with_reducible refine' m_nsDel D9 ?hs ?hh ?he ?_); (case hs => (repeat (first | exact Spl.here | apply Spl.there))); (case hh => kernel_rfl!); (case he => kernel_rfl!); clear D9; intro hN D9; (try simp only [List.cons_append, List.nil_append] at D9)) | ((with_reducible refine' m_nsGet (rv := none) D9 ?hm ?e ?_); (case hm => (repeat (first | exact List.Mem.head _ | apply List.Mem.tail))); (case e => kernel_rfl!)) | with_reducible refine wpAny_askSetting ?_ | with_reducible refine wpAny_point ?_ | with_reducible refine PyProof.Rows.lt_int ?_ | ((with_reducible refine callWith_F (q := 280) ?fnq ?_); (case fnq => exact ⟨_, _, _, _, lg_KK KX D9 chg0 _ _ (by k_is)⟩)) | ((with_reducible refine' m_nsL (rv := some (.ref ia)) hns ?ee ?_); (case ee => kernel_rfl!)) | ((with_reducible refine' m_nsL (rv := some (.ref ib)) hns ?ee ?_); (case ee => kernel_rfl!)) | ((first | guard_hyp gan | guard_hyp k); with_reducible refine te_in' ?_) | with_reducible refine te_go ?_ | ((first | guard_hyp gan | guard_hyp k); with_reducible refine aq_in ?_) | with_reducible refine aq_go ?_ | with_reducible refine ae_go ?_ | ((first | guard_hyp gan | guard_hyp k); with_reducible refine wpAny_of_eq (by assumption) ?_) | ((first | guard_hyp gan | guard_hyp k); with_reducible refine m_peek KX D9 chg0 (by assumption) ?_) | wp_delta | with_reducible refine wpAny_holding ?_ | with_reducible refine wpAny_standAt ?_ | with_reducible refine wpAny_rule ?_ | with_reducible refine wpAny_fresh' ?_ | ((first | guard_hyp gan | guard_hyp k); with_reducible refine te_in ?_) | ((with_reducible refine' wpAny_load (D9.keep _ _ ?ko nochg) ?_); (case ko => with_reducible first | exact gan | exact gbt | exact gsl | exact gst | exact gI | exact gL | exact gG | exact gE | exact gM | exact gN | exact k.cls | exact k.ns | exact k.dsc | exact k.ini | exact k.lt | exact k.cell | exact gi | exact gj)) | ((with_reducible refine' wpAny_loadPart (D9.keep _ _ ?ko nochg) ?_); (case ko => with_reducible first | exact gan | exact gbt | exact gsl | exact gst | exact gI | exact gL | exact gG | exact gE | exact gM | exact gN | exact k.cls | exact k.ns | exact k.dsc | exact k.ini | exact k.lt | exact k.cell | exact gi | exact gj)) | ((with_reducible refine' m_loadPart D9 ?hm ?_); (case hm => (repeat (first | exact List.Mem.head _ | apply List.Mem.tail)))) | ((with_reducible refine' m_load D9 ?hm ?_); (case hm => (repeat (first | exact List.Mem.head _ | apply List.Mem.tail)))) | ((with_reducible refine' m_alloc D9 ?ho ?_); (case ho => exact rfl); clear D9; intro a hN D9) | ((with_reducible refine' m_updPart D9 ?hp ?hf ?_); (case hp => (repeat (first | exact Put.here | apply Put.there))); (case hf => exact rfl); clear D9; intro hN D9; try dsimp only at D9) | ((with_reducible refine' m_upd D9 ?hp ?hf ?_); (case hp => (repeat (first | exact Put.here | apply Put.there))); (case hf => exact rfl); clear D9; intro hN D9; try dsimp only at D9) | ((with_reducible refine' m_loadC D9 ?hm ?_); (case hm => exact List.Mem.head _)) | ((with_reducible refine' m_loadK KX D9 ?hc ?e ?_); (case hc => first | exact chg0 | exact chg33 _); (case e => k_is)) | ((with_reducible refine' PySem.wpAny_ite_false ?zz ?_); (case zz => kernel_rfl!)) | ((with_reducible refine' PySem.wpAny_ite_true ?zz ?_); (case zz => kernel_rfl!)))
  show wpAny _ _ (alloc _ >>= fun x => pure (some x)) _ _ _
  repeat (first | with_reducible refine bq ?_ | with_reducible refine bq_go ?_ | with_reducible refine rv_go ?_ | with_reducible refine fin_done ?_ | with_reducible refine fin_again ?_ | with_reducible refine err_go ?_ | with_reducible refine rv_err ?_ | with_reducible refine wpAny_pure ?_ | with_reducible refine eq_in ?_ | with_reducible refine eq_go ?_ | ((with_reducible refine PySem.wpAny_enterFrame ?hl ?hd ?_); (case hl => exact (TW _ (lg_KK KX D9 (by first | exact chg0 | exact chg33 _))).nolimit); (case hd => exact Nat.le_of_ble_eq_true rfl)) | ((with_reducible refine' m_nsGetK KX D9 ?hc ?e ?_); (case hc => first | exact chg0 | exact chg33 _); (case e => k_is)) | ((with_reducible refine' m_nsSetNew D9 ?hs ?hr ?he ?_); (case hs => (repeat (first | exact Spl.here | apply Spl.there))); (case hr => kernel_rfl!); (case he => (intro hh kt; kernel_rfl!)); clear D9; intro hh kt hN D9; (try simp only [List.cons_append, List.nil_append] at D9)) | ((with_reducible refine' m_nsSetMod D9 ?hs ?hr ?he ?_); (case hs => (repeat (first | exact Spl.here | apply Spl.there))); (case hr => kernel_rfl!); (case he => (intro hh kt; kernel_rfl!)); clear D9; intro hN D9; (try simp only [List.cons_append, List.nil_append] at D9)) | ((with_reducible refine' m_nsDel D9 ?hs ?hh ?he ?_); (case hs => (repeat (first | exact Spl.here | apply Spl.there))); (case hh => kernel_rfl!); (case he => kernel_rfl!); clear D9; intro hN D9; (try simp only [List.cons_append, List.nil_append] at D9)) | ((with_reducible refine' m_nsGet (rv := none) D9 ?hm ?e ?_); (case hm => (repeat (first | exact List.Mem.head _ | apply List.Mem.tail))); (case e => kernel_rfl!)) | with_reducible refine wpAny_askSetting ?_ | with_reducible refine wpAny_point ?_ | with_reducible refine PyProof.Rows.lt_int ?_ | ((with_reducible refine callWith_F (q := 280) ?fnq ?_); (case fnq => exact ⟨_, _, _, _, lg_KK KX D9 chg0 _ _ (by k_is)⟩)) | ((with_reducible refine' m_nsL (rv := some (.ref ia)) hns ?ee ?_); (case ee => kernel_rfl!)) | ((with_reducible refine' m_nsL (rv := some (.ref ib)) hns ?ee ?_); (case ee => kernel_rfl!)) | ((first | guard_hyp gan | guard_hyp k); with_reducible refine te_in' ?_) | with_reducible refine te_go ?_ | ((first | guard_hyp gan | guard_hyp k); with_reducible refine aq_in ?_) | with_reducible refine aq_go ?_ | with_reducible refine ae_go ?_ | ((first | guard_hyp gan | guard_hyp k); with_reducible refine wpAny_of_eq (by assumption) ?_) | ((first | guard_hyp gan | guard_hyp k); with_reducible refine m_peek KX D9 chg0 (by assumption) ?_) | wp_delta | with_reducible refine wpAny_holding ?_ | with_reducible refine wpAny_standAt ?_ | with_reducible refine wpAny_rule ?_ | with_reducible refine wpAny_fresh' ?_ | ((first | guard_hyp gan | guard_hyp k); with_reducible refine te_in ?_) | ((with_reducible refine' wpAny_load (D9.keep _ _ ?ko nochg) ?_); (case ko => with_reducible first | exact gan | exact gbt | exact gsl | exact gst | exact gI | exact gL | exact gG | exact gE | exact gM | exact gN | exact k.cls | exact k.ns | exact k.dsc | exact k.ini | exact k.lt | exact k.cell | exact gi | exact gj)) | ((with_reducible refine' wpAny_loadPart (D9.keep _ _ ?ko nochg) ?_); (case ko => with_reducible first | exact gan | exact gbt | exact gsl | exact gst | exact gI | exact gL | exact gG | exact gE | exact gM | exact gN | exact k.cls | exact k.ns | exact k.dsc | exact k.ini | exact k.lt | exact k.cell | exact gi | exact gj)) | ((with_reducible refine' m_loadPart D9 ?hm ?_); (case hm => (repeat (first | exact List.Mem.head _ | apply List.Mem.tail)))) | ((with_reducible refine' m_load D9 ?hm ?_); (case hm => (repeat (first | exact List.Mem.head _ | apply List.Mem.tail)))) | ((with_reducible refine' m_alloc D9 ?ho ?_); (case ho => exact rfl); clear D9; intro a hN D9) | ((with_reducible refine' m_updPart D9 ?hp ?hf ?_); (case hp => (repeat (first | exact Put.here | apply Put.there))); (case hf => exact rfl); clear D9; intro hN D9; try dsimp only at D9) | ((with_reducible refine' m_upd D9 ?hp ?hf ?_); (case hp => (repeat (first | exact Put.here | apply Put.there))); (case hf => exact rfl); clear D9; intro hN D9; try dsimp only at D9) | ((with_reducible refine' m_loadC D9 ?hm ?_); (case hm => exact List.Mem.head _)) | ((with_reducible refine' m_loadK KX D9 ?hc ?e ?_); (case hc => first | exact chg0 | exact chg33 _); (case e => k_is)) | ((with_reducible refine' PySem.wpAny_ite_false ?zz ?_); (case zz => kernel_rfl!)) | ((with_reducible refine' PySem.wpAny_ite_true ?zz ?_); (case zz => kernel_rfl!)))
  rename Addr => ia
  have kN := k.up (h' := hN) fun b o e => D9.keep b o e nochg
  dsimp only
  unfold isSubtype
  repeat (first | with_reducible refine bq ?_ | with_reducible refine bq_go ?_ | with_reducible refine rv_go ?_ | with_reducible refine fin_done ?_ | with_reducible refine fin_again ?_ | with_reducible refine err_go ?_ | with_reducible refine rv_err ?_ | with_reducible refine wpAny_pure ?_ | with_reducible refine eq_in ?_ | with_reducible refine eq_go ?_ | ((with_reducible refine PySem.wpAny_enterFrame ?hl ?hd ?_); (case hl => exact (TW _ (lg_KK KX D9 (by first | exact chg0 | exact chg33 _))).nolimit); (case hd => exact Nat.le_of_ble_eq_true rfl)) | ((with_reducible refine' m_nsGetK KX D9 ?hc ?e ?_); (case hc => first | exact chg0 | exact chg33 _); (case e => k_is)) | ((with_reducible refine' m_nsSetNew D9 ?hs ?hr ?he ?_); (case hs => (repeat (first | exact Spl.here | apply Spl.there))); (case hr => kernel_rfl!); (case he => (intro hh kt; kernel_rfl!)); clear D9; intro hh kt hN D9; (try simp only [List.cons_append, List.nil_append] at D9)) | ((with_reducible refine' m_nsSetMod D9 ?hs ?hr ?he ?_); (case hs => (repeat (first | exact Spl.here | apply Spl.there))); (case hr => kernel_rfl!); (case he => (intro hh kt; kernel_rfl!)); clear D9; intro hN D9; (try simp only [List.cons_append, List.nil_append] at D9)) | ((with_reducible refine' m_nsDel D9 ?hs ?hh ?he ?_); (case hs => (repeat (first | exact Spl.here | apply Spl.there))); (case hh => kernel_rfl!); (case he => kernel_rfl!); clear D9; intro hN D9; (try simp only [List.cons_append, List.nil_append] at D9)) | ((with_reducible refine' m_nsGet (rv := none) D9 ?hm ?e ?_); (case hm => (repeat (first | exact List.Mem.head _ | apply List.Mem.tail))); (case e => kernel_rfl!)) | with_reducible refine wpAny_askSetting ?_ | with_reducible refine wpAny_point ?_ | with_reducible refine PyProof.Rows.lt_int ?_ | ((with_reducible refine callWith_F (q := 280) ?fnq ?_); (case fnq => exact ⟨_, _, _, _, lg_KK KX D9 chg0 _ _ (by k_is)⟩)) | ((with_reducible refine' m_nsL (rv := some (.ref ia)) hns ?ee ?_); (case ee => kernel_rfl!)) | ((with_reducible refine' m_nsL (rv := some (.ref ib)) hns ?ee ?_); (case ee => kernel_rfl!)) | ((first | guard_hyp gan | guard_hyp k); with_reducible refine te_in' ?_) | with_reducible refine te_go ?_ | ((first | guard_hyp gan | guard_hyp k); with_reducible refine aq_in ?_) | with_reducible refine aq_go ?_ | with_reducible refine ae_go ?_ | ((first | guard_hyp gan | guard_hyp k); with_reducible refine wpAny_of_eq (by assumption) ?_) | ((first | guard_hyp gan | guard_hyp k); with_reducible refine m_peek KX D9 chg0 (by assumption) ?_) | wp_delta | with_reducible refine wpAny_holding ?_ | with_reducible refine wpAny_standAt ?_ | with_reducible refine wpAny_rule ?_ | with_reducible refine wpAny_fresh' ?_ | ((first | guard_hyp gan | guard_hyp k); with_reducible refine te_in ?_) | ((with_reducible refine' wpAny_load (D9.keep _ _ ?ko nochg) ?_); (case ko => with_reducible first | exact gan | exact gbt | exact gsl | exact gst | exact gI | exact gL | exact gG | exact gE | exact gM | exact gN | exact k.cls | exact k.ns | exact k.dsc | exact k.ini | exact k.lt | exact k.cell | exact gi | exact gj)) | ((with_reducible refine' wpAny_loadPart (D9.keep _ _ ?ko nochg) ?_); (case ko => with_reducible first | exact gan | exact gbt | exact gsl | exact gst | exact gI | exact gL | exact gG | exact gE | exact gM | exact gN | exact k.cls | exact k.ns | exact k.dsc | exact k.ini | exact k.lt | exact k.cell | exact gi | exact gj)) | ((with_reducible refine' m_loadPart D9 ?hm ?_); (case hm => (repeat (first | exact List.Mem.head _ | apply List.Mem.tail)))) | ((with_reducible refine' m_load D9 ?hm ?_); (case hm => (repeat (first | exact List.Mem.head _ | apply List.Mem.tail)))) | ((with_reducible refine' m_alloc D9 ?ho ?_); (case ho => exact rfl); clear D9; intro a hN D9) | ((with_reducible refine' m_updPart D9 ?hp ?hf ?_); (case hp => (repeat (first | exact Put.here | apply Put.there))); (case hf => exact rfl); clear D9; intro hN D9; try dsimp only at D9) | ((with_reducible refine' m_upd D9 ?hp ?hf ?_); (case hp => (repeat (first | exact Put.here | apply Put.there))); (case hf => exact rfl); clear D9; intro hN D9; try dsimp only at D9) | ((with_reducible refine' m_loadC D9 ?hm ?_); (case hm => exact List.Mem.head _)) | ((with_reducible refine' m_loadK KX D9 ?hc ?e ?_); (case hc => first | exact chg0 | exact chg33 _); (case e => k_is)) | ((with_reducible refine' PySem.wpAny_ite_false ?zz ?_); (case zz => kernel_rfl!)) | ((with_reducible refine' PySem.wpAny_ite_true ?zz ?_); (case zz => kernel_rfl!)))
  rw [if_neg (by simp)]
  repeat (first | with_reducible refine bq ?_ | with_reducible refine bq_go ?_ | with_reducible refine rv_go ?_ | with_reducible refine fin_done ?_ | with_reducible refine fin_again ?_ | with_reducible refine err_go ?_ | with_reducible refine rv_err ?_ | with_reducible refine wpAny_pure ?_ | with_reducible refine eq_in ?_ | with_reducible refine eq_go ?_ | ((with_reducible refine PySem.wpAny_enterFrame ?hl ?hd ?_); (case hl => exact (TW _ (lg_KK KX D9 (by first | exact chg0 | exact chg33 _))).nolimit); (case hd => exact Nat.le_of_ble_eq_true rfl)) | ((with_reducible refine' m_nsGetK KX D9 ?hc ?e ?_); (case hc => first | exact chg0 | exact chg33 _); (case e => k_is)) | ((with_reducible refine' m_nsSetNew D9 ?hs ?hr ?he ?_); (case hs => (repeat (first | exact Spl.here | apply Spl.there))); (case hr => kernel_rfl!); (case he => (intro hh kt; kernel_rfl!)); clear D9; intro hh kt hN D9; (try simp only [List.cons_append, List.nil_append] at D9)) | ((with_reducible refine' m_nsSetMod D9 ?hs ?hr ?he ?_); (case hs => (repeat (first | exact Spl.here | apply Spl.there))); (case hr => kernel_rfl!); (case he => (intro hh kt; kernel_rfl!)); clear D9; intro hN D9; (try simp only [List.cons_append, List.nil_append] at D9)) | ((with_reducible refine' m_nsDel D9 ?hs ?hh ?he ?_); (case hs => (repeat (first | exact Spl.here | apply Spl.there))); (case hh => kernel_rfl!); (case he => kernel_rfl!); clear D9; intro hN D9; (try simp only [List.cons_append, List.nil_append] at D9)) | ((with_reducible refine' m_nsGet (rv := none) D9 ?hm ?e ?_); (case hm => (repeat (first | exact List.Mem.head _ | apply List.Mem.tail))); (case e => kernel_rfl!)) | with_reducible refine wpAny_askSetting ?_ | with_reducible refine wpAny_point ?_ | with_reducible refine PyProof.Rows.lt_int ?_ | ((with_reducible refine callWith_F (q := 280) ?fnq ?_); (case fnq => exact ⟨_, _, _, _, lg_KK KX D9 chg0 _ _ (by k_is)⟩)) | ((with_reducible refine' m_nsL (rv := some (.ref ia)) hns ?ee ?_); (case ee => kernel_rfl!)) | ((with_reducible refine' m_nsL (rv := some (.ref ib)) hns ?ee ?_); (case ee => kernel_rfl!)) | ((first | guard_hyp gan | guard_hyp k); with_reducible refine te_in' ?_) | with_reducible refine te_go ?_ | ((first | guard_hyp gan | guard_hyp k); with_reducible refine aq_in ?_) | with_reducible refine aq_go ?_ | with_reducible refine ae_go ?_ | ((first | guard_hyp gan | guard_hyp k); with_reducible refine wpAny_of_eq (by assumption) ?_) | ((first | guard_hyp gan | guard_hyp k); with_reducible refine m_peek KX D9 chg0 (by assumption) ?_) | wp_delta | with_reducible refine wpAny_holding ?_ | with_reducible refine wpAny_standAt ?_ | with_reducible refine wpAny_rule ?_ | with_reducible refine wpAny_fresh' ?_ | ((first | guard_hyp gan | guard_hyp k); with_reducible refine te_in ?_) | ((with_reducible refine' wpAny_load (D9.keep _ _ ?ko nochg) ?_); (case ko => with_reducible first | exact gan | exact gbt | exact gsl | exact gst | exact gI | exact gL | exact gG | exact gE | exact gM | exact gN | exact k.cls | exact k.ns | exact k.dsc | exact k.ini | exact k.lt | exact k.cell | exact gi | exact gj)) | ((with_reducible refine' wpAny_loadPart (D9.keep _ _ ?ko nochg) ?_); (case ko => with_reducible first | exact gan | exact gbt | exact gsl | exact gst | exact gI | exact gL | exact gG | exact gE | exact gM | exact gN | exact k.cls | exact k.ns | exact k.dsc | exact k.ini | exact k.lt | exact k.cell | exact gi | exact gj)) | ((with_reducible refine' m_loadPart D9 ?hm ?_); (case hm => (repeat (first | exact List.Mem.head _ | apply List.Mem.tail)))) | ((with_reducible refine' m_load D9 ?hm ?_); (case hm => (repeat (first | exact List.Mem.head _ | apply List.Mem.tail)))) | ((with_reducible refine' m_alloc D9 ?ho ?_); (case ho => exact rfl); clear D9; intro a hN D9) | ((with_reducible refine' m_updPart D9 ?hp ?hf ?_); (case hp => (repeat (first | exact Put.here | apply Put.there))); (case hf => exact rfl); clear D9; intro hN D9; try dsimp only at D9) | ((with_reducible refine' m_upd D9 ?hp ?hf ?_); (case hp => (repeat (first | exact Put.here | apply Put.there))); (case hf => exact rfl); clear D9; intro hN D9; try dsimp only at D9) | ((with_reducible refine' m_loadC D9 ?hm ?_); (case hm => exact List.Mem.head _)) | ((with_reducible refine' m_loadK KX D9 ?hc ?e ?_); (case hc => first | exact chg0 | exact chg33 _); (case e => k_is)) | ((with_reducible refine' PySem.wpAny_ite_false ?zz ?_); (case zz => kernel_rfl!)) | ((with_reducible refine' PySem.wpAny_ite_true ?zz ?_); (case zz => kernel_rfl!)))
  dsimp only
  refine m_tlOwn (name := Str.ofString "__init__") (v := .ref x.fI) kN (by kernel_rfl!) ?_
  repeat (first | with_reducible refine bq ?_ | with_reducible refine bq_go ?_ | with_reducible refine rv_go ?_ | with_reducible refine fin_done ?_ | with_reducible refine fin_again ?_ | with_reducible refine err_go ?_ | with_reducible refine rv_err ?_ | with_reducible refine wpAny_pure ?_ | with_reducible refine eq_in ?_ | with_reducible refine eq_go ?_ | ((with_reducible refine PySem.wpAny_enterFrame ?hl ?hd ?_); (case hl => exact (TW _ (lg_KK KX D9 (by first | exact chg0 | exact chg33 _))).nolimit); (case hd => exact Nat.le_of_ble_eq_true rfl)) | ((with_reducible refine' m_nsGetK KX D9 ?hc ?e ?_); (case hc => first | exact chg0 | exact chg33 _); (case e => k_is)) | ((with_reducible refine' m_nsSetNew D9 ?hs ?hr ?he ?_); (case hs => (repeat (first | exact Spl.here | apply Spl.there))); (case hr => kernel_rfl!); (case he => (intro hh kt; kernel_rfl!)); clear D9; intro hh kt hN D9; (try simp only [List.cons_append, List.nil_append] at D9)) | ((with_reducible refine' m_nsSetMod D9 ?hs ?hr ?he ?_); (case hs => (repeat (first | exact Spl.here | apply Spl.there))); (case hr => kernel_rfl!); (case he => (intro hh kt; kernel_rfl!)); clear D9; intro hN D9; (try simp only [List.cons_append, List.nil_append] at D9)) | ((with_reducible refine' m_nsDel D9 ?hs ?hh ?he ?_); (case hs => (repeat (first | exact Spl.here | apply Spl.there))); (case hh => kernel_rfl!); (case he => kernel_rfl!); clear D9; intro hN D9; (try simp only [List.cons_append, List.nil_append] at D9)) | ((with_reducible refine' m_nsGet (rv := none) D9 ?hm ?e ?_); (case hm => (repeat (first | exact List.Mem.head _ | apply List.Mem.tail))); (case e => kernel_rfl!)) | with_reducible refine wpAny_askSetting ?_ | with_reducible refine wpAny_point ?_ | with_reducible refine PyProof.Rows.lt_int ?_ | ((with_reducible refine callWith_F (q := 280) ?fnq ?_); (case fnq => exact ⟨_, _, _, _, lg_KK KX D9 chg0 _ _ (by k_is)⟩)) | ((with_reducible refine' m_nsL (rv := some (.ref ia)) hns ?ee ?_); (case ee => kernel_rfl!)) | ((with_reducible refine' m_nsL (rv := some (.ref ib)) hns ?ee ?_); (case ee => kernel_rfl!)) | ((first | guard_hyp gan | guard_hyp k); with_reducible refine te_in' ?_) | with_reducible refine te_go ?_ | ((first | guard_hyp gan | guard_hyp k); with_reducible refine aq_in ?_) | with_reducible refine aq_go ?_ | with_reducible refine ae_go ?_ | ((first | guard_hyp gan | guard_hyp k); with_reducible refine wpAny_of_eq (by assumption) ?_) | ((first | guard_hyp gan | guard_hyp k); with_reducible refine m_peek KX D9 chg0 (by assumption) ?_) | wp_delta | with_reducible refine wpAny_holding ?_ | with_reducible refine wpAny_standAt ?_ | with_reducible refine wpAny_rule ?_ | with_reducible refine wpAny_fresh' ?_ | ((first | guard_hyp gan | guard_hyp k); with_reducible refine te_in ?_) | ((with_reducible refine' wpAny_load (D9.keep _ _ ?ko nochg) ?_); (case ko => with_reducible first | exact gan | exact gbt | exact gsl | exact gst | exact gI | exact gL | exact gG | exact gE | exact gM | exact gN | exact k.cls | exact k.ns | exact k.dsc | exact k.ini | exact k.lt | exact k.cell | exact gi | exact gj)) | ((with_reducible refine' wpAny_loadPart (D9.keep _ _ ?ko nochg) ?_); (case ko => with_reducible first | exact gan | exact gbt | exact gsl | exact gst | exact gI | exact gL | exact gG | exact gE | exact gM | exact gN | exact k.cls | exact k.ns | exact k.dsc | exact k.ini | exact k.lt | exact k.cell | exact gi | exact gj)) | ((with_reducible refine' m_loadPart D9 ?hm ?_); (case hm => (repeat (first | exact List.Mem.head _ | apply List.Mem.tail)))) | ((with_reducible refine' m_load D9 ?hm ?_); (case hm => (repeat (first | exact List.Mem.head _ | apply List.Mem.tail)))) | ((with_reducible refine' m_alloc D9 ?ho ?_); (case ho => exact rfl); clear D9; intro a hN D9) | ((with_reducible refine' m_updPart D9 ?hp ?hf ?_); (case hp => (repeat (first | exact Put.here | apply Put.there))); (case hf => exact rfl); clear D9; intro hN D9; try dsimp only at D9) | ((with_reducible refine' m_upd D9 ?hp ?hf ?_); (case hp => (repeat (first | exact Put.here | apply Put.there))); (case hf => exact rfl); clear D9; intro hN D9; try dsimp only at D9) | ((with_reducible refine' m_loadC D9 ?hm ?_); (case hm => exact List.Mem.head _)) | ((with_reducible refine' m_loadK KX D9 ?hc ?e ?_); (case hc => first | exact chg0 | exact chg33 _); (case e => k_is)) | ((with_reducible refine' PySem.wpAny_ite_false ?zz ?_); (case zz => kernel_rfl!)) | ((with_reducible refine' PySem.wpAny_ite_true ?zz ?_); (case zz => kernel_rfl!)))
  have hb : Looks (model PW w) hN (bindSpecial (.ref x.fI) (.ref ia)) (.ref x.fI, [.ref ia]) := by
    unfold bindSpecial
    exact ((Looks.ld kN.ini).andThen .now).andThen (Looks.of_pure (by kernel_rfl))
  refine hb.here ?_
  repeat (first | with_reducible refine bq ?_ | with_reducible refine bq_go ?_ | with_reducible refine rv_go ?_ | with_reducible refine fin_done ?_ | with_reducible refine fin_again ?_ | with_reducible refine err_go ?_ | with_reducible refine rv_err ?_ | with_reducible refine wpAny_pure ?_ | with_reducible refine eq_in ?_ | with_reducible refine eq_go ?_ | ((with_reducible refine PySem.wpAny_enterFrame ?hl ?hd ?_); (case hl => exact (TW _ (lg_KK KX D9 (by first | exact chg0 | exact chg33 _))).nolimit); (case hd => exact Nat.le_of_ble_eq_true rfl)) | ((with_reducible refine' m_nsGetK KX D9 ?hc ?e ?_); (case hc => first | exact chg0 | exact chg33 _); (case e => k_is)) | ((with_reducible refine' m_nsSetNew D9 ?hs ?hr ?he ?_); (case hs => (repeat (first | exact Spl.here | apply Spl.there))); (case hr => kernel_rfl!); (case he => (intro hh kt; kernel_rfl!)); clear D9; intro hh kt hN D9; (try simp only [List.cons_append, List.nil_append] at D9)) | ((with_reducible refine' m_nsSetMod D9 ?hs ?hr ?he ?_); (case hs => (repeat (first | exact Spl.here | apply Spl.there))); (case hr => kernel_rfl!); (case he => (intro hh kt; kernel_rfl!)); clear D9; intro hN D9; (try simp only [List.cons_append, List.nil_append] at D9)) | ((with_reducible refine' m_nsDel D9 ?hs ?hh ?he ?_); (case hs => (repeat (first | exact Spl.here | apply Spl.there))); (case hh => kernel_rfl!); (case he => kernel_rfl!); clear D9; intro hN D9; (try simp only [List.cons_append, List.nil_append] at D9)) | ((with_reducible refine' m_nsGet (rv := none) D9 ?hm ?e ?_); (case hm => (repeat (first | exact List.Mem.head _ | apply List.Mem.tail))); (case e => kernel_rfl!)) | with_reducible refine wpAny_askSetting ?_ | with_reducible refine wpAny_point ?_ | with_reducible refine PyProof.Rows.lt_int ?_ | ((with_reducible refine callWith_F (q := 280) ?fnq ?_); (case fnq => exact ⟨_, _, _, _, lg_KK KX D9 chg0 _ _ (by k_is)⟩)) | ((with_reducible refine' m_nsL (rv := some (.ref ia)) hns ?ee ?_); (case ee => kernel_rfl!)) | ((with_reducible refine' m_nsL (rv := some (.ref ib)) hns ?ee ?_); (case ee => kernel_rfl!)) | ((first | guard_hyp gan | guard_hyp k); with_reducible refine te_in' ?_) | with_reducible refine te_go ?_ | ((first | guard_hyp gan | guard_hyp k); with_reducible refine aq_in ?_) | with_reducible refine aq_go ?_ | with_reducible refine ae_go ?_ | ((first | guard_hyp gan | guard_hyp k); with_reducible refine wpAny_of_eq (by assumption) ?_) | ((first | guard_hyp gan | guard_hyp k); with_reducible refine m_peek KX D9 chg0 (by assumption) ?_) | wp_delta | with_reducible refine wpAny_holding ?_ | with_reducible refine wpAny_standAt ?_ | with_reducible refine wpAny_rule ?_ | with_reducible refine wpAny_fresh' ?_ | ((first | guard_hyp gan | guard_hyp k); with_reducible refine te_in ?_) | ((with_reducible refine' wpAny_load (D9.keep _ _ ?ko nochg) ?_); (case ko => with_reducible first | exact gan | exact gbt | exact gsl | exact gst | exact gI | exact gL | exact gG | exact gE | exact gM | exact gN | exact k.cls | exact k.ns | exact k.dsc | exact k.ini | exact k.lt | exact k.cell | exact gi | exact gj)) | ((with_reducible refine' wpAny_loadPart (D9.keep _ _ ?ko nochg) ?_); (case ko => with_reducible first | exact gan | exact gbt | exact gsl | exact gst | exact gI | exact gL | exact gG | exact gE | exact gM | exact gN | exact k.cls | exact k.ns | exact k.dsc | exact k.ini | exact k.lt | exact k.cell | exact gi | exact gj)) | ((with_reducible refine' m_loadPart D9 ?hm ?_); (case hm => (repeat (first | exact List.Mem.head _ | apply List.Mem.tail)))) | ((with_reducible refine' m_load D9 ?hm ?_); (case hm => (repeat (first | exact List.Mem.head _ | apply List.Mem.tail)))) | ((with_reducible refine' m_alloc D9 ?ho ?_); (case ho => exact rfl); clear D9; intro a hN D9) | ((with_reducible refine' m_updPart D9 ?hp ?hf ?_); (case hp => (repeat (first | exact Put.here | apply Put.there))); (case hf => exact rfl); clear D9; intro hN D9; try dsimp only at D9) | ((with_reducible refine' m_upd D9 ?hp ?hf ?_); (case hp => (repeat (first | exact Put.here | apply Put.there))); (case hf => exact rfl); clear D9; intro hN D9; try dsimp only at D9) | ((with_reducible refine' m_loadC D9 ?hm ?_); (case hm => exact List.Mem.head _)) | ((with_reducible refine' m_loadK KX D9 ?hc ?e ?_); (case hc => first | exact chg0 | exact chg33 _); (case e => k_is)) | ((with_reducible refine' PySem.wpAny_ite_false ?zz ?_); (case zz => kernel_rfl!)) | ((with_reducible refine' PySem.wpAny_ite_true ?zz ?_); (case zz => kernel_rfl!)))
  refine call_q ?_
  have T := TW _ (lg_KK KX D9 chg0)
  refine codeAny_call_def (s := ⟨hN, g, d, t, os⟩) (fd := fnX _ _ _ _ _ _ _ _ _ _ _ _ _) (binds := [(Str.ofString "self", .ref ia), (Str.ofString "obj", .ref ib)]) (by exact Nat.le_of_ble_eq_true rfl) kN.ini rfl T.nolimit kN.cIr rfl ?b1 ?b2 (locs rfl) ?_
  case b1 => exact BindsTo.of_eq rfl
  case b2 => (show ∀ z ∈ ([(Str.ofString "self", NameKind.local), (Str.ofString "obj", NameKind.local)] : List (Str × NameKind)), z.2 ≠ NameKind.cell); decide
  intro hN2 hns hk
  dsimp only [callEnv, fnX, newEnv] at hns ⊢
  replace hk : Up hN hN2 := hk
  replace D9 : Lg h hN2 [] _ := ⟨fun b o e n => hk _ _ (D9.keep b o e n), fun _ hp => (nomatch hp), fun p hp => ⟨hk _ _ (D9.nw p hp).1, (D9.nw p hp).2⟩, D9.nd⟩
  have kN := kN.up hk
  clear hb T
  generalize hN.objs.size = L at hns ⊢
  refine wpAny_gen fun QB EB hQB hEB => ?_
  refine exec_hold ?_
  repeat (first | with_reducible refine bq ?_ | with_reducible refine bq_go ?_ | with_reducible refine rv_go ?_ | with_reducible refine fin_done ?_ | with_reducible refine fin_again ?_ | with_reducible refine err_go ?_ | with_reducible refine rv_err ?_ | with_reducible refine wpAny_pure ?_ | with_reducible refine eq_in ?_ | with_reducible refine eq_go ?_ | ((with_reducible refine PySem.wpAny_enterFrame ?hl ?hd ?_); (case hl => exact (TW _ (lg_KK KX D9 (by first | exact chg0 | exact chg33 _))).nolimit); (case hd => exact Nat.le_of_ble_eq_true rfl)) | ((with_reducible refine' m_nsGetK KX D9 ?hc ?e ?_); (case hc => first | exact chg0 | exact chg33 _); (case e => k_is)) | ((with_reducible refine' m_nsSetNew D9 ?hs ?hr ?he ?_); (case hs => (repeat (first | exact Spl.here | apply Spl.there))); (case hr => kernel_rfl!); (case he => (intro hh kt; kernel_rfl!)); clear D9; intro hh kt hN D9; (try simp only [List.cons_append, List.nil_append] at D9)) | ((with_reducible refine' m_nsSetMod D9 ?hs ?hr ?he ?_); (case hs => (repeat (first | exact Spl.here | apply Spl.there))); (case hr => kernel_rfl!); (case he => (intro hh kt; kernel_rfl!)); clear D9; intro hN D9; (try simp only [List.cons_append, List.nil_append] at D9)) | ((with_reducible refine' m_nsDel D9 ?hs ?hh ?he ?_); (case hs => (repeat (first | exact Spl.here | apply Spl.there))); (case hh => kernel_rfl!); (case he => kernel_rfl!); clear D9; intro hN D9; (try simp only [List.cons_append, List.nil_append] at D9)) | ((with_reducible refine' m_nsGet (rv := none) D9 ?hm ?e ?_); (case hm => (repeat (first | exact List.Mem.head _ | apply List.Mem.tail))); (case e => kernel_rfl!)) | with_reducible refine wpAny_askSetting ?_ | with_reducible refine wpAny_point ?_ | with_reducible refine PyProof.Rows.lt_int ?_ | ((with_reducible refine callWith_F (q := 280) ?fnq ?_); (case fnq => exact ⟨_, _, _, _, lg_KK KX D9 chg0 _ _ (by k_is)⟩)) | ((with_reducible refine' m_nsL (rv := some (.ref ia)) hns ?ee ?_); (case ee => kernel_rfl!)) | ((with_reducible refine' m_nsL (rv := some (.ref ib)) hns ?ee ?_); (case ee => kernel_rfl!)) | ((first | guard_hyp gan | guard_hyp k); with_reducible refine te_in' ?_) | with_reducible refine te_go ?_ | ((first | guard_hyp gan | guard_hyp k); with_reducible refine aq_in ?_) | with_reducible refine aq_go ?_ | with_reducible refine ae_go ?_ | ((first | guard_hyp gan | guard_hyp k); with_reducible refine wpAny_of_eq (by assumption) ?_) | ((first | guard_hyp gan | guard_hyp k); with_reducible refine m_peek KX D9 chg0 (by assumption) ?_) | wp_delta | with_reducible refine wpAny_holding ?_ | with_reducible refine wpAny_standAt ?_ | with_reducible refine wpAny_rule ?_ | with_reducible refine wpAny_fresh' ?_ | ((first | guard_hyp gan | guard_hyp k); with_reducible refine te_in ?_) | ((with_reducible refine' wpAny_load (D9.keep _ _ ?ko nochg) ?_); (case ko => with_reducible first | exact gan | exact gbt | exact gsl | exact gst | exact gI | exact gL | exact gG | exact gE | exact gM | exact gN | exact k.cls | exact k.ns | exact k.dsc | exact k.ini | exact k.lt | exact k.cell | exact gi | exact gj)) | ((with_reducible refine' wpAny_loadPart (D9.keep _ _ ?ko nochg) ?_); (case ko => with_reducible first | exact gan | exact gbt | exact gsl | exact gst | exact gI | exact gL | exact gG | exact gE | exact gM | exact gN | exact k.cls | exact k.ns | exact k.dsc | exact k.ini | exact k.lt | exact k.cell | exact gi | exact gj)) | ((with_reducible refine' m_loadPart D9 ?hm ?_); (case hm => (repeat (first | exact List.Mem.head _ | apply List.Mem.tail)))) | ((with_reducible refine' m_load D9 ?hm ?_); (case hm => (repeat (first | exact List.Mem.head _ | apply List.Mem.tail)))) | ((with_reducible refine' m_alloc D9 ?ho ?_); (case ho => exact rfl); clear D9; intro a hN D9) | ((with_reducible refine' m_updPart D9 ?hp ?hf ?_); (case hp => (repeat (first | exact Put.here | apply Put.there))); (case hf => exact rfl); clear D9; intro hN D9; try dsimp only at D9) | ((with_reducible refine' m_upd D9 ?hp ?hf ?_); (case hp => (repeat (first | exact Put.here | apply Put.there))); (case hf => exact rfl); clear D9; intro hN D9; try dsimp only at D9) | ((with_reducible refine' m_loadC D9 ?hm ?_); (case hm => exact List.Mem.head _)) | ((with_reducible refine' m_loadK KX D9 ?hc ?e ?_); (case hc => first | exact chg0 | exact chg33 _); (case e => k_is)) | ((with_reducible refine' PySem.wpAny_ite_false ?zz ?_); (case zz => kernel_rfl!)) | ((with_reducible refine' PySem.wpAny_ite_true ?zz ?_); (case zz => kernel_rfl!)))
  have hsa : classOwn (.type "object") "__setattr__" = pure (some (.builtin "object.__setattr__")) := by show pure (builtinOwn _ _) = _; rw [builtinOwn_eq_fast]; kernel_rfl
  dsimp only
  refine m_tlObj kN (by kernel_rfl!) hsa ?_
  repeat (first | with_reducible refine bq ?_ | with_reducible refine bq_go ?_ | with_reducible refine rv_go ?_ | with_reducible refine fin_done ?_ | with_reducible refine fin_again ?_ | with_reducible refine err_go ?_ | with_reducible refine rv_err ?_ | with_reducible refine wpAny_pure ?_ | with_reducible refine eq_in ?_ | with_reducible refine eq_go ?_ | ((with_reducible refine PySem.wpAny_enterFrame ?hl ?hd ?_); (case hl => exact (TW _ (lg_KK KX D9 (by first | exact chg0 | exact chg33 _))).nolimit); (case hd => exact Nat.le_of_ble_eq_true rfl)) | ((with_reducible refine' m_nsGetK KX D9 ?hc ?e ?_); (case hc => first | exact chg0 | exact chg33 _); (case e => k_is)) | ((with_reducible refine' m_nsSetNew D9 ?hs ?hr ?he ?_); (case hs => (repeat (first | exact Spl.here | apply Spl.there))); (case hr => kernel_rfl!); (case he => (intro hh kt; kernel_rfl!)); clear D9; intro hh kt hN D9; (try simp only [List.cons_append, List.nil_append] at D9)) | ((with_reducible refine' m_nsSetMod D9 ?hs ?hr ?he ?_); (case hs => (repeat (first | exact Spl.here | apply Spl.there))); (case hr => kernel_rfl!); (case he => (intro hh kt; kernel_rfl!)); clear D9; intro hN D9; (try simp only [List.cons_append, List.nil_append] at D9)) | ((with_reducible refine' m_nsDel D9 ?hs ?hh ?he ?_); (case hs => (repeat (first | exact Spl.here | apply Spl.there))); (case hh => kernel_rfl!); (case he => kernel_rfl!); clear D9; intro hN D9; (try simp only [List.cons_append, List.nil_append] at D9)) | ((with_reducible refine' m_nsGet (rv := none) D9 ?hm ?e ?_); (case hm => (repeat (first | exact List.Mem.head _ | apply List.Mem.tail))); (case e => kernel_rfl!)) | with_reducible refine wpAny_askSetting ?_ | with_reducible refine wpAny_point ?_ | with_reducible refine PyProof.Rows.lt_int ?_ | ((with_reducible refine callWith_F (q := 280) ?fnq ?_); (case fnq => exact ⟨_, _, _, _, lg_KK KX D9 chg0 _ _ (by k_is)⟩)) | ((with_reducible refine' m_nsL (rv := some (.ref ia)) hns ?ee ?_); (case ee => kernel_rfl!)) | ((with_reducible refine' m_nsL (rv := some (.ref ib)) hns ?ee ?_); (case ee => kernel_rfl!)) | ((first | guard_hyp gan | guard_hyp k); with_reducible refine te_in' ?_) | with_reducible refine te_go ?_ | ((first | guard_hyp gan | guard_hyp k); with_reducible refine aq_in ?_) | with_reducible refine aq_go ?_ | with_reducible refine ae_go ?_ | ((first | guard_hyp gan | guard_hyp k); with_reducible refine wpAny_of_eq (by assumption) ?_) | ((first | guard_hyp gan | guard_hyp k); with_reducible refine m_peek KX D9 chg0 (by assumption) ?_) | wp_delta | with_reducible refine wpAny_holding ?_ | with_reducible refine wpAny_standAt ?_ | with_reducible refine wpAny_rule ?_ | with_reducible refine wpAny_fresh' ?_ | ((first | guard_hyp gan | guard_hyp k); with_reducible refine te_in ?_) | ((with_reducible refine' wpAny_load (D9.keep _ _ ?ko nochg) ?_); (case ko => with_reducible first | exact gan | exact gbt | exact gsl | exact gst | exact gI | exact gL | exact gG | exact gE | exact gM | exact gN | exact k.cls | exact k.ns | exact k.dsc | exact k.ini | exact k.lt | exact k.cell | exact gi | exact gj)) | ((with_reducible refine' wpAny_loadPart (D9.keep _ _ ?ko nochg) ?_); (case ko => with_reducible first | exact gan | exact gbt | exact gsl | exact gst | exact gI | exact gL | exact gG | exact gE | exact gM | exact gN | exact k.cls | exact k.ns | exact k.dsc | exact k.ini | exact k.lt | exact k.cell | exact gi | exact gj)) | ((with_reducible refine' m_loadPart D9 ?hm ?_); (case hm => (repeat (first | exact List.Mem.head _ | apply List.Mem.tail)))) | ((with_reducible refine' m_load D9 ?hm ?_); (case hm => (repeat (first | exact List.Mem.head _ | apply List.Mem.tail)))) | ((with_reducible refine' m_alloc D9 ?ho ?_); (case ho => exact rfl); clear D9; intro a hN D9) | ((with_reducible refine' m_updPart D9 ?hp ?hf ?_); (case hp => (repeat (first | exact Put.here | apply Put.there))); (case hf => exact rfl); clear D9; intro hN D9; try dsimp only at D9) | ((with_reducible refine' m_upd D9 ?hp ?hf ?_); (case hp => (repeat (first | exact Put.here | apply Put.there))); (case hf => exact rfl); clear D9; intro hN D9; try dsimp only at D9) | ((with_reducible refine' m_loadC D9 ?hm ?_); (case hm => exact List.Mem.head _)) | ((with_reducible refine' m_loadK KX D9 ?hc ?e ?_); (case hc => first | exact chg0 | exact chg33 _); (case e => k_is)) | ((with_reducible refine' PySem.wpAny_ite_false ?zz ?_); (case zz => kernel_rfl!)) | ((with_reducible refine' PySem.wpAny_ite_true ?zz ?_); (case zz => kernel_rfl!)))
  refine wpAny_of_eq (a := (.builtin "object.__setattr__", [.ref ia])) (by kernel_rfl) ?_
  repeat (first | with_reducible refine bq ?_ | with_reducible refine bq_go ?_ | with_reducible refine rv_go ?_ | with_reducible refine fin_done ?_ | with_reducible refine fin_again ?_ | with_reducible refine err_go ?_ | with_reducible refine rv_err ?_ | with_reducible refine wpAny_pure ?_ | with_reducible refine eq_in ?_ | with_reducible refine eq_go ?_ | ((with_reducible refine PySem.wpAny_enterFrame ?hl ?hd ?_); (case hl => exact (TW _ (lg_KK KX D9 (by first | exact chg0 | exact chg33 _))).nolimit); (case hd => exact Nat.le_of_ble_eq_true rfl)) | ((with_reducible refine' m_nsGetK KX D9 ?hc ?e ?_); (case hc => first | exact chg0 | exact chg33 _); (case e => k_is)) | ((with_reducible refine' m_nsSetNew D9 ?hs ?hr ?he ?_); (case hs => (repeat (first | exact Spl.here | apply Spl.there))); (case hr => kernel_rfl!); (case he => (intro hh kt; kernel_rfl!)); clear D9; intro hh kt hN D9; (try simp only [List.cons_append, List.nil_append] at D9)) | ((with_reducible refine' m_nsSetMod D9 ?hs ?hr ?he ?_); (case hs => (repeat (first | exact Spl.here | apply Spl.there))); (case hr => kernel_rfl!); (case he => (intro hh kt; kernel_rfl!)); clear D9; intro hN D9; (try simp only [List.cons_append, List.nil_append] at D9)) | ((with_reducible refine' m_nsDel D9 ?hs ?hh ?he ?_); (case hs => (repeat (first | exact Spl.here | apply Spl.there))); (case hh => kernel_rfl!); (case he => kernel_rfl!); clear D9; intro hN D9; (try simp only [List.cons_append, List.nil_append] at D9)) | ((with_reducible refine' m_nsGet (rv := none) D9 ?hm ?e ?_); (case hm => (repeat (first | exact List.Mem.head _ | apply List.Mem.tail))); (case e => kernel_rfl!)) | with_reducible refine wpAny_askSetting ?_ | with_reducible refine wpAny_point ?_ | with_reducible refine PyProof.Rows.lt_int ?_ | ((with_reducible refine callWith_F (q := 280) ?fnq ?_); (case fnq => exact ⟨_, _, _, _, lg_KK KX D9 chg0 _ _ (by k_is)⟩)) | ((with_reducible refine' m_nsL (rv := some (.ref ia)) hns ?ee ?_); (case ee => kernel_rfl!)) | ((with_reducible refine' m_nsL (rv := some (.ref ib)) hns ?ee ?_); (case ee => kernel_rfl!)) | ((first | guard_hyp gan | guard_hyp k); with_reducible refine te_in' ?_) | with_reducible refine te_go ?_ | ((first | guard_hyp gan | guard_hyp k); with_reducible refine aq_in ?_) | with_reducible refine aq_go ?_ | with_reducible refine ae_go ?_ | ((first | guard_hyp gan | guard_hyp k); with_reducible refine wpAny_of_eq (by assumption) ?_) | ((first | guard_hyp gan | guard_hyp k); with_reducible refine m_peek KX D9 chg0 (by assumption) ?_) | wp_delta | with_reducible refine wpAny_holding ?_ | with_reducible refine wpAny_standAt ?_ | with_reducible refine wpAny_rule ?_ | with_reducible refine wpAny_fresh' ?_ | ((first | guard_hyp gan | guard_hyp k); with_reducible refine te_in ?_) | ((with_reducible refine' wpAny_load (D9.keep _ _ ?ko nochg) ?_); (case ko => with_reducible first | exact gan | exact gbt | exact gsl | exact gst | exact gI | exact gL | exact gG | exact gE | exact gM | exact gN | exact k.cls | exact k.ns | exact k.dsc | exact k.ini | exact k.lt | exact k.cell | exact gi | exact gj)) | ((with_reducible refine' wpAny_loadPart (D9.keep _ _ ?ko nochg) ?_); (case ko => with_reducible first | exact gan | exact gbt | exact gsl | exact gst | exact gI | exact gL | exact gG | exact gE | exact gM | exact gN | exact k.cls | exact k.ns | exact k.dsc | exact k.ini | exact k.lt | exact k.cell | exact gi | exact gj)) | ((with_reducible refine' m_loadPart D9 ?hm ?_); (case hm => (repeat (first | exact List.Mem.head _ | apply List.Mem.tail)))) | ((with_reducible refine' m_load D9 ?hm ?_); (case hm => (repeat (first | exact List.Mem.head _ | apply List.Mem.tail)))) | ((with_reducible refine' m_alloc D9 ?ho ?_); (case ho => exact rfl); clear D9; intro a hN D9) | ((with_reducible refine' m_updPart D9 ?hp ?hf ?_); (case hp => (repeat (first | exact Put.here | apply Put.there))); (case hf => exact rfl); clear D9; intro hN D9; try dsimp only at D9) | ((with_reducible refine' m_upd D9 ?hp ?hf ?_); (case hp => (repeat (first | exact Put.here | apply Put.there))); (case hf => exact rfl); clear D9; intro hN D9; try dsimp only at D9) | ((with_reducible refine' m_loadC D9 ?hm ?_); (case hm => exact List.Mem.head _)) | ((with_reducible refine' m_loadK KX D9 ?hc ?e ?_); (case hc => first | exact chg0 | exact chg33 _); (case e => k_is)) | ((with_reducible refine' PySem.wpAny_ite_false ?zz ?_); (case zz => kernel_rfl!)) | ((with_reducible refine' PySem.wpAny_ite_true ?zz ?_); (case zz => kernel_rfl!)))
  refine call_q ?_
  have gia := (D9.nw _ (List.Mem.head _)).1
  dsimp only at gia
  have hTO : isSubtype (.type "object") (.type "object") = pure true := by rw [isSubtype_type]; kernel_rfl
  have sub : Looks (model PW w) hN2 (isInstance (.ref ia) (.type "object")) true := by
    unfold isInstance
    refine ((Looks.ld gia).andThen .now).andThen ?_
    unfold isSubtype
    refine (Looks.ld kN.cls).andThen ?_
    exact .now
  have SF := PySem.F.store_object
  refine callb_q SF.slot.plain SF.entry (@check_slot (model PW w) _ _ _ "object.__setattr__" "object" "__setattr__" (.ref ia) [.str (Str.ofString "obj") _, .ref ib] [] _ SF.kind SF.split sub (SF.args _ _ _) ?_)
  show wpAny _ _ (Builtin.«object.__setattr__» ⟨[.ref ia, .str (Str.ofString "obj") _, .ref ib], []⟩) _ _ _
  rw [osa_eq]
  repeat (first | with_reducible refine bq ?_ | with_reducible refine bq_go ?_ | with_reducible refine rv_go ?_ | with_reducible refine fin_done ?_ | with_reducible refine fin_again ?_ | with_reducible refine err_go ?_ | with_reducible refine rv_err ?_ | with_reducible refine wpAny_pure ?_ | with_reducible refine eq_in ?_ | with_reducible refine eq_go ?_ | ((with_reducible refine PySem.wpAny_enterFrame ?hl ?hd ?_); (case hl => exact (TW _ (lg_KK KX D9 (by first | exact chg0 | exact chg33 _))).nolimit); (case hd => exact Nat.le_of_ble_eq_true rfl)) | ((with_reducible refine' m_nsGetK KX D9 ?hc ?e ?_); (case hc => first | exact chg0 | exact chg33 _); (case e => k_is)) | ((with_reducible refine' m_nsSetNew D9 ?hs ?hr ?he ?_); (case hs => (repeat (first | exact Spl.here | apply Spl.there))); (case hr => kernel_rfl!); (case he => (intro hh kt; kernel_rfl!)); clear D9; intro hh kt hN D9; (try simp only [List.cons_append, List.nil_append] at D9)) | ((with_reducible refine' m_nsSetMod D9 ?hs ?hr ?he ?_); (case hs => (repeat (first | exact Spl.here | apply Spl.there))); (case hr => kernel_rfl!); (case he => (intro hh kt; kernel_rfl!)); clear D9; intro hN D9; (try simp only [List.cons_append, List.nil_append] at D9)) | ((with_reducible refine' m_nsDel D9 ?hs ?hh ?he ?_); (case hs => (repeat (first | exact Spl.here | apply Spl.there))); (case hh => kernel_rfl!); (case he => kernel_rfl!); clear D9; intro hN D9; (try simp only [List.cons_append, List.nil_append] at D9)) | ((with_reducible refine' m_nsGet (rv := none) D9 ?hm ?e ?_); (case hm => (repeat (first | exact List.Mem.head _ | apply List.Mem.tail))); (case e => kernel_rfl!)) | with_reducible refine wpAny_askSetting ?_ | with_reducible refine wpAny_point ?_ | with_reducible refine PyProof.Rows.lt_int ?_ | ((with_reducible refine callWith_F (q := 280) ?fnq ?_); (case fnq => exact ⟨_, _, _, _, lg_KK KX D9 chg0 _ _ (by k_is)⟩)) | ((with_reducible refine' m_nsL (rv := some (.ref ia)) hns ?ee ?_); (case ee => kernel_rfl!)) | ((with_reducible refine' m_nsL (rv := some (.ref ib)) hns ?ee ?_); (case ee => kernel_rfl!)) | ((first | guard_hyp gan | guard_hyp k); with_reducible refine te_in' ?_) | with_reducible refine te_go ?_ | ((first | guard_hyp gan | guard_hyp k); with_reducible refine aq_in ?_) | with_reducible refine aq_go ?_ | with_reducible refine ae_go ?_ | ((first | guard_hyp gan | guard_hyp k); with_reducible refine wpAny_of_eq (by assumption) ?_) | ((first | guard_hyp gan | guard_hyp k); with_reducible refine m_peek KX D9 chg0 (by assumption) ?_) | wp_delta | with_reducible refine wpAny_holding ?_ | with_reducible refine wpAny_standAt ?_ | with_reducible refine wpAny_rule ?_ | with_reducible refine wpAny_fresh' ?_ | ((first | guard_hyp gan | guard_hyp k); with_reducible refine te_in ?_) | ((with_reducible refine' wpAny_load (D9.keep _ _ ?ko nochg) ?_); (case ko => with_reducible first | exact gan | exact gbt | exact gsl | exact gst | exact gI | exact gL | exact gG | exact gE | exact gM | exact gN | exact k.cls | exact k.ns | exact k.dsc | exact k.ini | exact k.lt | exact k.cell | exact gi | exact gj)) | ((with_reducible refine' wpAny_loadPart (D9.keep _ _ ?ko nochg) ?_); (case ko => with_reducible first | exact gan | exact gbt | exact gsl | exact gst | exact gI | exact gL | exact gG | exact gE | exact gM | exact gN | exact k.cls | exact k.ns | exact k.dsc | exact k.ini | exact k.lt | exact k.cell | exact gi | exact gj)) | ((with_reducible refine' m_loadPart D9 ?hm ?_); (case hm => (repeat (first | exact List.Mem.head _ | apply List.Mem.tail)))) | ((with_reducible refine' m_load D9 ?hm ?_); (case hm => (repeat (first | exact List.Mem.head _ | apply List.Mem.tail)))) | ((with_reducible refine' m_alloc D9 ?ho ?_); (case ho => exact rfl); clear D9; intro a hN D9) | ((with_reducible refine' m_updPart D9 ?hp ?hf ?_); (case hp => (repeat (first | exact Put.here | apply Put.there))); (case hf => exact rfl); clear D9; intro hN D9; try dsimp only at D9) | ((with_reducible refine' m_upd D9 ?hp ?hf ?_); (case hp => (repeat (first | exact Put.here | apply Put.there))); (case hf => exact rfl); clear D9; intro hN D9; try dsimp only at D9) | ((with_reducible refine' m_loadC D9 ?hm ?_); (case hm => exact List.Mem.head _)) | ((with_reducible refine' m_loadK KX D9 ?hc ?e ?_); (case hc => first | exact chg0 | exact chg33 _); (case e => k_is)) | ((with_reducible refine' PySem.wpAny_ite_false ?zz ?_); (case zz => kernel_rfl!)) | ((with_reducible refine' PySem.wpAny_ite_true ?zz ?_); (case zz => kernel_rfl!)))
  dsimp only
  have ms : typeLookup (.type "member_descriptor") "__set__" = pure (some (.builtin "member_descriptor.__set__")) := by rw [typeLookup_type, builtinLookup_eq_fast]; kernel_rfl
  refine m_tlOwn (name := Str.ofString "obj") (v := .ref x.aD) kN (by kernel_rfl!) ?_
  repeat (first | with_reducible refine bq ?_ | with_reducible refine bq_go ?_ | with_reducible refine rv_go ?_ | with_reducible refine fin_done ?_ | with_reducible refine fin_again ?_ | with_reducible refine err_go ?_ | with_reducible refine rv_err ?_ | with_reducible refine wpAny_pure ?_ | with_reducible refine eq_in ?_ | with_reducible refine eq_go ?_ | ((with_reducible refine PySem.wpAny_enterFrame ?hl ?hd ?_); (case hl => exact (TW _ (lg_KK KX D9 (by first | exact chg0 | exact chg33 _))).nolimit); (case hd => exact Nat.le_of_ble_eq_true rfl)) | ((with_reducible refine' m_nsGetK KX D9 ?hc ?e ?_); (case hc => first | exact chg0 | exact chg33 _); (case e => k_is)) | ((with_reducible refine' m_nsSetNew D9 ?hs ?hr ?he ?_); (case hs => (repeat (first | exact Spl.here | apply Spl.there))); (case hr => kernel_rfl!); (case he => (intro hh kt; kernel_rfl!)); clear D9; intro hh kt hN D9; (try simp only [List.cons_append, List.nil_append] at D9)) | ((with_reducible refine' m_nsSetMod D9 ?hs ?hr ?he ?_); (case hs => (repeat (first | exact Spl.here | apply Spl.there))); (case hr => kernel_rfl!); (case he => (intro hh kt; kernel_rfl!)); clear D9; intro hN D9; (try simp only [List.cons_append, List.nil_append] at D9)) | ((with_reducible refine' m_nsDel D9 ?hs ?hh ?he ?_); (case hs => (repeat (first | exact Spl.here | apply Spl.there))); (case hh => kernel_rfl!); (case he => kernel_rfl!); clear D9; intro hN D9; (try simp only [List.cons_append, List.nil_append] at D9)) | ((with_reducible refine' m_nsGet (rv := none) D9 ?hm ?e ?_); (case hm => (repeat (first | exact List.Mem.head _ | apply List.Mem.tail))); (case e => kernel_rfl!)) | with_reducible refine wpAny_askSetting ?_ | with_reducible refine wpAny_point ?_ | with_reducible refine PyProof.Rows.lt_int ?_ | ((with_reducible refine callWith_F (q := 280) ?fnq ?_); (case fnq => exact ⟨_, _, _, _, lg_KK KX D9 chg0 _ _ (by k_is)⟩)) | ((with_reducible refine' m_nsL (rv := some (.ref ia)) hns ?ee ?_); (case ee => kernel_rfl!)) | ((with_reducible refine' m_nsL (rv := some (.ref ib)) hns ?ee ?_); (case ee => kernel_rfl!)) | ((first | guard_hyp gan | guard_hyp k); with_reducible refine te_in' ?_) | with_reducible refine te_go ?_ | ((first | guard_hyp gan | guard_hyp k); with_reducible refine aq_in ?_) | with_reducible refine aq_go ?_ | with_reducible refine ae_go ?_ | ((first | guard_hyp gan | guard_hyp k); with_reducible refine wpAny_of_eq (by assumption) ?_) | ((first | guard_hyp gan | guard_hyp k); with_reducible refine m_peek KX D9 chg0 (by assumption) ?_) | wp_delta | with_reducible refine wpAny_holding ?_ | with_reducible refine wpAny_standAt ?_ | with_reducible refine wpAny_rule ?_ | with_reducible refine wpAny_fresh' ?_ | ((first | guard_hyp gan | guard_hyp k); with_reducible refine te_in ?_) | ((with_reducible refine' wpAny_load (D9.keep _ _ ?ko nochg) ?_); (case ko => with_reducible first | exact gan | exact gbt | exact gsl | exact gst | exact gI | exact gL | exact gG | exact gE | exact gM | exact gN | exact k.cls | exact k.ns | exact k.dsc | exact k.ini | exact k.lt | exact k.cell | exact gi | exact gj)) | ((with_reducible refine' wpAny_loadPart (D9.keep _ _ ?ko nochg) ?_); (case ko => with_reducible first | exact gan | exact gbt | exact gsl | exact gst | exact gI | exact gL | exact gG | exact gE | exact gM | exact gN | exact k.cls | exact k.ns | exact k.dsc | exact k.ini | exact k.lt | exact k.cell | exact gi | exact gj)) | ((with_reducible refine' m_loadPart D9 ?hm ?_); (case hm => (repeat (first | exact List.Mem.head _ | apply List.Mem.tail)))) | ((with_reducible refine' m_load D9 ?hm ?_); (case hm => (repeat (first | exact List.Mem.head _ | apply List.Mem.tail)))) | ((with_reducible refine' m_alloc D9 ?ho ?_); (case ho => exact rfl); clear D9; intro a hN D9) | ((with_reducible refine' m_updPart D9 ?hp ?hf ?_); (case hp => (repeat (first | exact Put.here | apply Put.there))); (case hf => exact rfl); clear D9; intro hN D9; try dsimp only at D9) | ((with_reducible refine' m_upd D9 ?hp ?hf ?_); (case hp => (repeat (first | exact Put.here | apply Put.there))); (case hf => exact rfl); clear D9; intro hN D9; try dsimp only at D9) | ((with_reducible refine' m_loadC D9 ?hm ?_); (case hm => exact List.Mem.head _)) | ((with_reducible refine' m_loadK KX D9 ?hc ?e ?_); (case hc => first | exact chg0 | exact chg33 _); (case e => k_is)) | ((with_reducible refine' PySem.wpAny_ite_false ?zz ?_); (case zz => kernel_rfl!)) | ((with_reducible refine' PySem.wpAny_ite_true ?zz ?_); (case zz => kernel_rfl!)))
  refine wpAny_of_eq (a := (.builtin "member_descriptor.__set__", [.ref x.aD])) (by kernel_rfl) ?_
  repeat (first | with_reducible refine bq ?_ | with_reducible refine bq_go ?_ | with_reducible refine rv_go ?_ | with_reducible refine fin_done ?_ | with_reducible refine fin_again ?_ | with_reducible refine err_go ?_ | with_reducible refine rv_err ?_ | with_reducible refine wpAny_pure ?_ | with_reducible refine eq_in ?_ | with_reducible refine eq_go ?_ | ((with_reducible refine PySem.wpAny_enterFrame ?hl ?hd ?_); (case hl => exact (TW _ (lg_KK KX D9 (by first | exact chg0 | exact chg33 _))).nolimit); (case hd => exact Nat.le_of_ble_eq_true rfl)) | ((with_reducible refine' m_nsGetK KX D9 ?hc ?e ?_); (case hc => first | exact chg0 | exact chg33 _); (case e => k_is)) | ((with_reducible refine' m_nsSetNew D9 ?hs ?hr ?he ?_); (case hs => (repeat (first | exact Spl.here | apply Spl.there))); (case hr => kernel_rfl!); (case he => (intro hh kt; kernel_rfl!)); clear D9; intro hh kt hN D9; (try simp only [List.cons_append, List.nil_append] at D9)) | ((with_reducible refine' m_nsSetMod D9 ?hs ?hr ?he ?_); (case hs => (repeat (first | exact Spl.here | apply Spl.there))); (case hr => kernel_rfl!); (case he => (intro hh kt; kernel_rfl!)); clear D9; intro hN D9; (try simp only [List.cons_append, List.nil_append] at D9)) | ((with_reducible refine' m_nsDel D9 ?hs ?hh ?he ?_); (case hs => (repeat (first | exact Spl.here | apply Spl.there))); (case hh => kernel_rfl!); (case he => kernel_rfl!); clear D9; intro hN D9; (try simp only [List.cons_append, List.nil_append] at D9)) | ((with_reducible refine' m_nsGet (rv := none) D9 ?hm ?e ?_); (case hm => (repeat (first | exact List.Mem.head _ | apply List.Mem.tail))); (case e => kernel_rfl!)) | with_reducible refine wpAny_askSetting ?_ | with_reducible refine wpAny_point ?_ | with_reducible refine PyProof.Rows.lt_int ?_ | ((with_reducible refine callWith_F (q := 280) ?fnq ?_); (case fnq => exact ⟨_, _, _, _, lg_KK KX D9 chg0 _ _ (by k_is)⟩)) | ((with_reducible refine' m_nsL (rv := some (.ref ia)) hns ?ee ?_); (case ee => kernel_rfl!)) | ((with_reducible refine' m_nsL (rv := some (.ref ib)) hns ?ee ?_); (case ee => kernel_rfl!)) | ((first | guard_hyp gan | guard_hyp k); with_reducible refine te_in' ?_) | with_reducible refine te_go ?_ | ((first | guard_hyp gan | guard_hyp k); with_reducible refine aq_in ?_) | with_reducible refine aq_go ?_ | with_reducible refine ae_go ?_ | ((first | guard_hyp gan | guard_hyp k); with_reducible refine wpAny_of_eq (by assumption) ?_) | ((first | guard_hyp gan | guard_hyp k); with_reducible refine m_peek KX D9 chg0 (by assumption) ?_) | wp_delta | with_reducible refine wpAny_holding ?_ | with_reducible refine wpAny_standAt ?_ | with_reducible refine wpAny_rule ?_ | with_reducible refine wpAny_fresh' ?_ | ((first | guard_hyp gan | guard_hyp k); with_reducible refine te_in ?_) | ((with_reducible refine' wpAny_load (D9.keep _ _ ?ko nochg) ?_); (case ko => with_reducible first | exact gan | exact gbt | exact gsl | exact gst | exact gI | exact gL | exact gG | exact gE | exact gM | exact gN | exact k.cls | exact k.ns | exact k.dsc | exact k.ini | exact k.lt | exact k.cell | exact gi | exact gj)) | ((with_reducible refine' wpAny_loadPart (D9.keep _ _ ?ko nochg) ?_); (case ko => with_reducible first | exact gan | exact gbt | exact gsl | exact gst | exact gI | exact gL | exact gG | exact gE | exact gM | exact gN | exact k.cls | exact k.ns | exact k.dsc | exact k.ini | exact k.lt | exact k.cell | exact gi | exact gj)) | ((with_reducible refine' m_loadPart D9 ?hm ?_); (case hm => (repeat (first | exact List.Mem.head _ | apply List.Mem.tail)))) | ((with_reducible refine' m_load D9 ?hm ?_); (case hm => (repeat (first | exact List.Mem.head _ | apply List.Mem.tail)))) | ((with_reducible refine' m_alloc D9 ?ho ?_); (case ho => exact rfl); clear D9; intro a hN D9) | ((with_reducible refine' m_updPart D9 ?hp ?hf ?_); (case hp => (repeat (first | exact Put.here | apply Put.there))); (case hf => exact rfl); clear D9; intro hN D9; try dsimp only at D9) | ((with_reducible refine' m_upd D9 ?hp ?hf ?_); (case hp => (repeat (first | exact Put.here | apply Put.there))); (case hf => exact rfl); clear D9; intro hN D9; try dsimp only at D9) | ((with_reducible refine' m_loadC D9 ?hm ?_); (case hm => exact List.Mem.head _)) | ((with_reducible refine' m_loadK KX D9 ?hc ?e ?_); (case hc => first | exact chg0 | exact chg33 _); (case e => k_is)) | ((with_reducible refine' PySem.wpAny_ite_false ?zz ?_); (case zz => kernel_rfl!)) | ((with_reducible refine' PySem.wpAny_ite_true ?zz ?_); (case zz => kernel_rfl!)))
  refine call_q ?_
  show codeAny _ _ (.call (.builtin "member_descriptor.__set__") ⟨[.ref x.aD, .ref ia, .ref ib], []⟩) _ _
  refine callb_q KF.slot_mset.plain KF.entry_mset (KF.slot_mset.check _ _ _ _ _ _ _ _ ⟨_, kN.dsc, rfl⟩ (KF.args_mset _ _ _) ?_)
  unfold Builtin.«member_descriptor.__set__» PySem.Builtin.Getset_descriptor.descrSet PySem.Builtin.Getset_descriptor.descrStoreThrough PySem.Builtin.Getset_descriptor.descrCheckInstance PySem.Builtin.Getset_descriptor.descrNameAndClass isInstance
  repeat (first | with_reducible refine bq ?_ | with_reducible refine bq_go ?_ | with_reducible refine rv_go ?_ | with_reducible refine fin_done ?_ | with_reducible refine fin_again ?_ | with_reducible refine err_go ?_ | with_reducible refine rv_err ?_ | with_reducible refine wpAny_pure ?_ | with_reducible refine eq_in ?_ | with_reducible refine eq_go ?_ | ((with_reducible refine PySem.wpAny_enterFrame ?hl ?hd ?_); (case hl => exact (TW _ (lg_KK KX D9 (by first | exact chg0 | exact chg33 _))).nolimit); (case hd => exact Nat.le_of_ble_eq_true rfl)) | ((with_reducible refine' m_nsGetK KX D9 ?hc ?e ?_); (case hc => first | exact chg0 | exact chg33 _); (case e => k_is)) | ((with_reducible refine' m_nsSetNew D9 ?hs ?hr ?he ?_); (case hs => (repeat (first | exact Spl.here | apply Spl.there))); (case hr => kernel_rfl!); (case he => (intro hh kt; kernel_rfl!)); clear D9; intro hh kt hN D9; (try simp only [List.cons_append, List.nil_append] at D9)) | ((with_reducible refine' m_nsSetMod D9 ?hs ?hr ?he ?_); (case hs => (repeat (first | exact Spl.here | apply Spl.there))); (case hr => kernel_rfl!); (case he => (intro hh kt; kernel_rfl!)); clear D9; intro hN D9; (try simp only [List.cons_append, List.nil_append] at D9)) | ((with_reducible refine' m_nsDel D9 ?hs ?hh ?he ?_); (case hs => (repeat (first | exact Spl.here | apply Spl.there))); (case hh => kernel_rfl!); (case he => kernel_rfl!); clear D9; intro hN D9; (try simp only [List.cons_append, List.nil_append] at D9)) | ((with_reducible refine' m_nsGet (rv := none) D9 ?hm ?e ?_); (case hm => (repeat (first | exact List.Mem.head _ | apply List.Mem.tail))); (case e => kernel_rfl!)) | with_reducible refine wpAny_askSetting ?_ | with_reducible refine wpAny_point ?_ | with_reducible refine PyProof.Rows.lt_int ?_ | ((with_reducible refine callWith_F (q := 280) ?fnq ?_); (case fnq => exact ⟨_, _, _, _, lg_KK KX D9 chg0 _ _ (by k_is)⟩)) | ((with_reducible refine' m_nsL (rv := some (.ref ia)) hns ?ee ?_); (case ee => kernel_rfl!)) | ((with_reducible refine' m_nsL (rv := some (.ref ib)) hns ?ee ?_); (case ee => kernel_rfl!)) | ((first | guard_hyp gan | guard_hyp k); with_reducible refine te_in' ?_) | with_reducible refine te_go ?_ | ((first | guard_hyp gan | guard_hyp k); with_reducible refine aq_in ?_) | with_reducible refine aq_go ?_ | with_reducible refine ae_go ?_ | ((first | guard_hyp gan | guard_hyp k); with_reducible refine wpAny_of_eq (by assumption) ?_) | ((first | guard_hyp gan | guard_hyp k); with_reducible refine m_peek KX D9 chg0 (by assumption) ?_) | wp_delta | with_reducible refine wpAny_holding ?_ | with_reducible refine wpAny_standAt ?_ | with_reducible refine wpAny_rule ?_ | with_reducible refine wpAny_fresh' ?_ | ((first | guard_hyp gan | guard_hyp k); with_reducible refine te_in ?_) | ((with_reducible refine' wpAny_load (D9.keep _ _ ?ko nochg) ?_); (case ko => with_reducible first | exact gan | exact gbt | exact gsl | exact gst | exact gI | exact gL | exact gG | exact gE | exact gM | exact gN | exact k.cls | exact k.ns | exact k.dsc | exact k.ini | exact k.lt | exact k.cell | exact gi | exact gj)) | ((with_reducible refine' wpAny_loadPart (D9.keep _ _ ?ko nochg) ?_); (case ko => with_reducible first | exact gan | exact gbt | exact gsl | exact gst | exact gI | exact gL | exact gG | exact gE | exact gM | exact gN | exact k.cls | exact k.ns | exact k.dsc | exact k.ini | exact k.lt | exact k.cell | exact gi | exact gj)) | ((with_reducible refine' m_loadPart D9 ?hm ?_); (case hm => (repeat (first | exact List.Mem.head _ | apply List.Mem.tail)))) | ((with_reducible refine' m_load D9 ?hm ?_); (case hm => (repeat (first | exact List.Mem.head _ | apply List.Mem.tail)))) | ((with_reducible refine' m_alloc D9 ?ho ?_); (case ho => exact rfl); clear D9; intro a hN D9) | ((with_reducible refine' m_updPart D9 ?hp ?hf ?_); (case hp => (repeat (first | exact Put.here | apply Put.there))); (case hf => exact rfl); clear D9; intro hN D9; try dsimp only at D9) | ((with_reducible refine' m_upd D9 ?hp ?hf ?_); (case hp => (repeat (first | exact Put.here | apply Put.there))); (case hf => exact rfl); clear D9; intro hN D9; try dsimp only at D9) | ((with_reducible refine' m_loadC D9 ?hm ?_); (case hm => exact List.Mem.head _)) | ((with_reducible refine' m_loadK KX D9 ?hc ?e ?_); (case hc => first | exact chg0 | exact chg33 _); (case e => k_is)) | ((with_reducible refine' PySem.wpAny_ite_false ?zz ?_); (case zz => kernel_rfl!)) | ((with_reducible refine' PySem.wpAny_ite_true ?zz ?_); (case zz => kernel_rfl!)))
  show wpAny _ _ (isSubtype (.ref aK) (.ref aK)) _ _ _
  unfold isSubtype
  repeat (first | with_reducible refine bq ?_ | with_reducible refine bq_go ?_ | with_reducible refine rv_go ?_ | with_reducible refine fin_done ?_ | with_reducible refine fin_again ?_ | with_reducible refine err_go ?_ | with_reducible refine rv_err ?_ | with_reducible refine wpAny_pure ?_ | with_reducible refine eq_in ?_ | with_reducible refine eq_go ?_ | ((with_reducible refine PySem.wpAny_enterFrame ?hl ?hd ?_); (case hl => exact (TW _ (lg_KK KX D9 (by first | exact chg0 | exact chg33 _))).nolimit); (case hd => exact Nat.le_of_ble_eq_true rfl)) | ((with_reducible refine' m_nsGetK KX D9 ?hc ?e ?_); (case hc => first | exact chg0 | exact chg33 _); (case e => k_is)) | ((with_reducible refine' m_nsSetNew D9 ?hs ?hr ?he ?_); (case hs => (repeat (first | exact Spl.here | apply Spl.there))); (case hr => kernel_rfl!); (case he => (intro hh kt; kernel_rfl!)); clear D9; intro hh kt hN D9; (try simp only [List.cons_append, List.nil_append] at D9)) | ((with_reducible refine' m_nsSetMod D9 ?hs ?hr ?he ?_); (case hs => (repeat (first | exact Spl.here | apply Spl.there))); (case hr => kernel_rfl!); (case he => (intro hh kt; kernel_rfl!)); clear D9; intro hN D9; (try simp only [List.cons_append, List.nil_append] at D9)) | ((with_reducible refine' m_nsDel D9 ?hs ?hh ?he ?_); (case hs => (repeat (first | exact Spl.here | apply Spl.there))); (case hh => kernel_rfl!); (case he => kernel_rfl!); clear D9; intro hN D9; (try simp only [List.cons_append, List.nil_append] at D9)) | ((with_reducible refine' m_nsGet (rv := none) D9 ?hm ?e ?_); (case hm => (repeat (first | exact List.Mem.head _ | apply List.Mem.tail))); (case e => kernel_rfl!)) | with_reducible refine wpAny_askSetting ?_ | with_reducible refine wpAny_point ?_ | with_reducible refine PyProof.Rows.lt_int ?_ | ((with_reducible refine callWith_F (q := 280) ?fnq ?_); (case fnq => exact ⟨_, _, _, _, lg_KK KX D9 chg0 _ _ (by k_is)⟩)) | ((with_reducible refine' m_nsL (rv := some (.ref ia)) hns ?ee ?_); (case ee => kernel_rfl!)) | ((with_reducible refine' m_nsL (rv := some (.ref ib)) hns ?ee ?_); (case ee => kernel_rfl!)) | ((first | guard_hyp gan | guard_hyp k); with_reducible refine te_in' ?_) | with_reducible refine te_go ?_ | ((first | guard_hyp gan | guard_hyp k); with_reducible refine aq_in ?_) | with_reducible refine aq_go ?_ | with_reducible refine ae_go ?_ | ((first | guard_hyp gan | guard_hyp k); with_reducible refine wpAny_of_eq (by assumption) ?_) | ((first | guard_hyp gan | guard_hyp k); with_reducible refine m_peek KX D9 chg0 (by assumption) ?_) | wp_delta | with_reducible refine wpAny_holding ?_ | with_reducible refine wpAny_standAt ?_ | with_reducible refine wpAny_rule ?_ | with_reducible refine wpAny_fresh' ?_ | ((first | guard_hyp gan | guard_hyp k); with_reducible refine te_in ?_) | ((with_reducible refine' wpAny_load (D9.keep _ _ ?ko nochg) ?_); (case ko => with_reducible first | exact gan | exact gbt | exact gsl | exact gst | exact gI | exact gL | exact gG | exact gE | exact gM | exact gN | exact k.cls | exact k.ns | exact k.dsc | exact k.ini | exact k.lt | exact k.cell | exact gi | exact gj)) | ((with_reducible refine' wpAny_loadPart (D9.keep _ _ ?ko nochg) ?_); (case ko => with_reducible first | exact gan | exact gbt | exact gsl | exact gst | exact gI | exact gL | exact gG | exact gE | exact gM | exact gN | exact k.cls | exact k.ns | exact k.dsc | exact k.ini | exact k.lt | exact k.cell | exact gi | exact gj)) | ((with_reducible refine' m_loadPart D9 ?hm ?_); (case hm => (repeat (first | exact List.Mem.head _ | apply List.Mem.tail)))) | ((with_reducible refine' m_load D9 ?hm ?_); (case hm => (repeat (first | exact List.Mem.head _ | apply List.Mem.tail)))) | ((with_reducible refine' m_alloc D9 ?ho ?_); (case ho => exact rfl); clear D9; intro a hN D9) | ((with_reducible refine' m_updPart D9 ?hp ?hf ?_); (case hp => (repeat (first | exact Put.here | apply Put.there))); (case hf => exact rfl); clear D9; intro hN D9; try dsimp only at D9) | ((with_reducible refine' m_upd D9 ?hp ?hf ?_); (case hp => (repeat (first | exact Put.here | apply Put.there))); (case hf => exact rfl); clear D9; intro hN D9; try dsimp only at D9) | ((with_reducible refine' m_loadC D9 ?hm ?_); (case hm => exact List.Mem.head _)) | ((with_reducible refine' m_loadK KX D9 ?hc ?e ?_); (case hc => first | exact chg0 | exact chg33 _); (case e => k_is)) | ((with_reducible refine' PySem.wpAny_ite_false ?zz ?_); (case zz => kernel_rfl!)) | ((with_reducible refine' PySem.wpAny_ite_true ?zz ?_); (case zz => kernel_rfl!)))
  dsimp only
  rw [if_neg (by simp)]
  repeat (first | with_reducible refine bq ?_ | with_reducible refine bq_go ?_ | with_reducible refine rv_go ?_ | with_reducible refine fin_done ?_ | with_reducible refine fin_again ?_ | with_reducible refine err_go ?_ | with_reducible refine rv_err ?_ | with_reducible refine wpAny_pure ?_ | with_reducible refine eq_in ?_ | with_reducible refine eq_go ?_ | ((with_reducible refine PySem.wpAny_enterFrame ?hl ?hd ?_); (case hl => exact (TW _ (lg_KK KX D9 (by first | exact chg0 | exact chg33 _))).nolimit); (case hd => exact Nat.le_of_ble_eq_true rfl)) | ((with_reducible refine' m_nsGetK KX D9 ?hc ?e ?_); (case hc => first | exact chg0 | exact chg33 _); (case e => k_is)) | ((with_reducible refine' m_nsSetNew D9 ?hs ?hr ?he ?_); (case hs => (repeat (first | exact Spl.here | apply Spl.there))); (case hr => kernel_rfl!); (case he => (intro hh kt; kernel_rfl!)); clear D9; intro hh kt hN D9; (try simp only [List.cons_append, List.nil_append] at D9)) | ((with_reducible refine' m_nsSetMod D9 ?hs ?hr ?he ?_); (case hs => (repeat (first | exact Spl.here | apply Spl.there))); (case hr => kernel_rfl!); (case he => (intro hh kt; kernel_rfl!)); clear D9; intro hN D9; (try simp only [List.cons_append, List.nil_append] at D9)) | ((with_reducible refine' m_nsDel D9 ?hs ?hh ?he ?_); (case hs => (repeat (first | exact Spl.here | apply Spl.there))); (case hh => kernel_rfl!); (case he => kernel_rfl!); clear D9; intro hN D9; (try simp only [List.cons_append, List.nil_append] at D9)) | ((with_reducible refine' m_nsGet (rv := none) D9 ?hm ?e ?_); (case hm => (repeat (first | exact List.Mem.head _ | apply List.Mem.tail))); (case e => kernel_rfl!)) | with_reducible refine wpAny_askSetting ?_ | with_reducible refine wpAny_point ?_ | with_reducible refine PyProof.Rows.lt_int ?_ | ((with_reducible refine callWith_F (q := 280) ?fnq ?_); (case fnq => exact ⟨_, _, _, _, lg_KK KX D9 chg0 _ _ (by k_is)⟩)) | ((with_reducible refine' m_nsL (rv := some (.ref ia)) hns ?ee ?_); (case ee => kernel_rfl!)) | ((with_reducible refine' m_nsL (rv := some (.ref ib)) hns ?ee ?_); (case ee => kernel_rfl!)) | ((first | guard_hyp gan | guard_hyp k); with_reducible refine te_in' ?_) | with_reducible refine te_go ?_ | ((first | guard_hyp gan | guard_hyp k); with_reducible refine aq_in ?_) | with_reducible refine aq_go ?_ | with_reducible refine ae_go ?_ | ((first | guard_hyp gan | guard_hyp k); with_reducible refine wpAny_of_eq (by assumption) ?_) | ((first | guard_hyp gan | guard_hyp k); with_reducible refine m_peek KX D9 chg0 (by assumption) ?_) | wp_delta | with_reducible refine wpAny_holding ?_ | with_reducible refine wpAny_standAt ?_ | with_reducible refine wpAny_rule ?_ | with_reducible refine wpAny_fresh' ?_ | ((first | guard_hyp gan | guard_hyp k); with_reducible refine te_in ?_) | ((with_reducible refine' wpAny_load (D9.keep _ _ ?ko nochg) ?_); (case ko => with_reducible first | exact gan | exact gbt | exact gsl | exact gst | exact gI | exact gL | exact gG | exact gE | exact gM | exact gN | exact k.cls | exact k.ns | exact k.dsc | exact k.ini | exact k.lt | exact k.cell | exact gi | exact gj)) | ((with_reducible refine' wpAny_loadPart (D9.keep _ _ ?ko nochg) ?_); (case ko => with_reducible first | exact gan | exact gbt | exact gsl | exact gst | exact gI | exact gL | exact gG | exact gE | exact gM | exact gN | exact k.cls | exact k.ns | exact k.dsc | exact k.ini | exact k.lt | exact k.cell | exact gi | exact gj)) | ((with_reducible refine' m_loadPart D9 ?hm ?_); (case hm => (repeat (first | exact List.Mem.head _ | apply List.Mem.tail)))) | ((with_reducible refine' m_load D9 ?hm ?_); (case hm => (repeat (first | exact List.Mem.head _ | apply List.Mem.tail)))) | ((with_reducible refine' m_alloc D9 ?ho ?_); (case ho => exact rfl); clear D9; intro a hN D9) | ((with_reducible refine' m_updPart D9 ?hp ?hf ?_); (case hp => (repeat (first | exact Put.here | apply Put.there))); (case hf => exact rfl); clear D9; intro hN D9; try dsimp only at D9) | ((with_reducible refine' m_upd D9 ?hp ?hf ?_); (case hp => (repeat (first | exact Put.here | apply Put.there))); (case hf => exact rfl); clear D9; intro hN D9; try dsimp only at D9) | ((with_reducible refine' m_loadC D9 ?hm ?_); (case hm => exact List.Mem.head _)) | ((with_reducible refine' m_loadK KX D9 ?hc ?e ?_); (case hc => first | exact chg0 | exact chg33 _); (case e => k_is)) | ((with_reducible refine' PySem.wpAny_ite_false ?zz ?_); (case zz => kernel_rfl!)) | ((with_reducible refine' PySem.wpAny_ite_true ?zz ?_); (case zz => kernel_rfl!)))
  refine ⟨Code.quiet_builtin _ (by decide +kernel), builtin_q KF.entry_slotset ?_⟩
  unfold Builtin.«proto.slot#set» Builtin.Slots.target
  repeat (first | with_reducible refine bq ?_ | with_reducible refine bq_go ?_ | with_reducible refine rv_go ?_ | with_reducible refine fin_done ?_ | with_reducible refine fin_again ?_ | with_reducible refine err_go ?_ | with_reducible refine rv_err ?_ | with_reducible refine wpAny_pure ?_ | with_reducible refine eq_in ?_ | with_reducible refine eq_go ?_ | ((with_reducible refine PySem.wpAny_enterFrame ?hl ?hd ?_); (case hl => exact (TW _ (lg_KK KX D9 (by first | exact chg0 | exact chg33 _))).nolimit); (case hd => exact Nat.le_of_ble_eq_true rfl)) | ((with_reducible refine' m_nsGetK KX D9 ?hc ?e ?_); (case hc => first | exact chg0 | exact chg33 _); (case e => k_is)) | ((with_reducible refine' m_nsSetNew D9 ?hs ?hr ?he ?_); (case hs => (repeat (first | exact Spl.here | apply Spl.there))); (case hr => kernel_rfl!); (case he => (intro hh kt; kernel_rfl!)); clear D9; intro hh kt hN D9; (try simp only [List.cons_append, List.nil_append] at D9)) | ((with_reducible refine' m_nsSetMod D9 ?hs ?hr ?he ?_); (case hs => (repeat (first | exact Spl.here | apply Spl.there))); (case hr => kernel_rfl!); (case he => (intro hh kt; kernel_rfl!)); clear D9; intro hN D9; (try simp only [List.cons_append, List.nil_append] at D9)) | ((with_reducible refine' m_nsDel D9 ?hs ?hh ?he ?_); (case hs => (repeat (first | exact Spl.here | apply Spl.there))); (case hh => kernel_rfl!); (case he => kernel_rfl!); clear D9; intro hN D9; (try simp only [List.cons_append, List.nil_append] at D9)) | ((with_reducible refine' m_nsGet (rv := none) D9 ?hm ?e ?_); (case hm => (repeat (first | exact List.Mem.head _ | apply List.Mem.tail))); (case e => kernel_rfl!)) | with_reducible refine wpAny_askSetting ?_ | with_reducible refine wpAny_point ?_ | with_reducible refine PyProof.Rows.lt_int ?_ | ((with_reducible refine callWith_F (q := 280) ?fnq ?_); (case fnq => exact ⟨_, _, _, _, lg_KK KX D9 chg0 _ _ (by k_is)⟩)) | ((with_reducible refine' m_nsL (rv := some (.ref ia)) hns ?ee ?_); (case ee => kernel_rfl!)) | ((with_reducible refine' m_nsL (rv := some (.ref ib)) hns ?ee ?_); (case ee => kernel_rfl!)) | ((first | guard_hyp gan | guard_hyp k); with_reducible refine te_in' ?_) | with_reducible refine te_go ?_ | ((first | guard_hyp gan | guard_hyp k); with_reducible refine aq_in ?_) | with_reducible refine aq_go ?_ | with_reducible refine ae_go ?_ | ((first | guard_hyp gan | guard_hyp k); with_reducible refine wpAny_of_eq (by assumption) ?_) | ((first | guard_hyp gan | guard_hyp k); with_reducible refine m_peek KX D9 chg0 (by assumption) ?_) | wp_delta | with_reducible refine wpAny_holding ?_ | with_reducible refine wpAny_standAt ?_ | with_reducible refine wpAny_rule ?_ | with_reducible refine wpAny_fresh' ?_ | ((first | guard_hyp gan | guard_hyp k); with_reducible refine te_in ?_) | ((with_reducible refine' wpAny_load (D9.keep _ _ ?ko nochg) ?_); (case ko => with_reducible first | exact gan | exact gbt | exact gsl | exact gst | exact gI | exact gL | exact gG | exact gE | exact gM | exact gN | exact k.cls | exact k.ns | exact k.dsc | exact k.ini | exact k.lt | exact k.cell | exact gi | exact gj)) | ((with_reducible refine' wpAny_loadPart (D9.keep _ _ ?ko nochg) ?_); (case ko => with_reducible first | exact gan | exact gbt | exact gsl | exact gst | exact gI | exact gL | exact gG | exact gE | exact gM | exact gN | exact k.cls | exact k.ns | exact k.dsc | exact k.ini | exact k.lt | exact k.cell | exact gi | exact gj)) | ((with_reducible refine' m_loadPart D9 ?hm ?_); (case hm => (repeat (first | exact List.Mem.head _ | apply List.Mem.tail)))) | ((with_reducible refine' m_load D9 ?hm ?_); (case hm => (repeat (first | exact List.Mem.head _ | apply List.Mem.tail)))) | ((with_reducible refine' m_alloc D9 ?ho ?_); (case ho => exact rfl); clear D9; intro a hN D9) | ((with_reducible refine' m_updPart D9 ?hp ?hf ?_); (case hp => (repeat (first | exact Put.here | apply Put.there))); (case hf => exact rfl); clear D9; intro hN D9; try dsimp only at D9) | ((with_reducible refine' m_upd D9 ?hp ?hf ?_); (case hp => (repeat (first | exact Put.here | apply Put.there))); (case hf => exact rfl); clear D9; intro hN D9; try dsimp only at D9) | ((with_reducible refine' m_loadC D9 ?hm ?_); (case hm => exact List.Mem.head _)) | ((with_reducible refine' m_loadK KX D9 ?hc ?e ?_); (case hc => first | exact chg0 | exact chg33 _); (case e => k_is)) | ((with_reducible refine' PySem.wpAny_ite_false ?zz ?_); (case zz => kernel_rfl!)) | ((with_reducible refine' PySem.wpAny_ite_true ?zz ?_); (case zz => kernel_rfl!)))
  refine ⟨rfl, ?_⟩
  unfold Hold
  refine wpAny_execs_nil ?_
  subst hQB hEB
  dsimp only
  repeat (first | with_reducible refine bq ?_ | with_reducible refine bq_go ?_ | with_reducible refine rv_go ?_ | with_reducible refine fin_done ?_ | with_reducible refine fin_again ?_ | with_reducible refine err_go ?_ | with_reducible refine rv_err ?_ | with_reducible refine wpAny_pure ?_ | with_reducible refine eq_in ?_ | with_reducible refine eq_go ?_ | ((with_reducible refine PySem.wpAny_enterFrame ?hl ?hd ?_); (case hl => exact (TW _ (lg_KK KX D9 (by first | exact chg0 | exact chg33 _))).nolimit); (case hd => exact Nat.le_of_ble_eq_true rfl)) | ((with_reducible refine' m_nsGetK KX D9 ?hc ?e ?_); (case hc => first | exact chg0 | exact chg33 _); (case e => k_is)) | ((with_reducible refine' m_nsSetNew D9 ?hs ?hr ?he ?_); (case hs => (repeat (first | exact Spl.here | apply Spl.there))); (case hr => kernel_rfl!); (case he => (intro hh kt; kernel_rfl!)); clear D9; intro hh kt hN D9; (try simp only [List.cons_append, List.nil_append] at D9)) | ((with_reducible refine' m_nsSetMod D9 ?hs ?hr ?he ?_); (case hs => (repeat (first | exact Spl.here | apply Spl.there))); (case hr => kernel_rfl!); (case he => (intro hh kt; kernel_rfl!)); clear D9; intro hN D9; (try simp only [List.cons_append, List.nil_append] at D9)) | ((with_reducible refine' m_nsDel D9 ?hs ?hh ?he ?_); (case hs => (repeat (first | exact Spl.here | apply Spl.there))); (case hh => kernel_rfl!); (case he => kernel_rfl!); clear D9; intro hN D9; (try simp only [List.cons_append, List.nil_append] at D9)) | ((with_reducible refine' m_nsGet (rv := none) D9 ?hm ?e ?_); (case hm => (repeat (first | exact List.Mem.head _ | apply List.Mem.tail))); (case e => kernel_rfl!)) | with_reducible refine wpAny_askSetting ?_ | with_reducible refine wpAny_point ?_ | with_reducible refine PyProof.Rows.lt_int ?_ | ((with_reducible refine callWith_F (q := 280) ?fnq ?_); (case fnq => exact ⟨_, _, _, _, lg_KK KX D9 chg0 _ _ (by k_is)⟩)) | ((with_reducible refine' m_nsL (rv := some (.ref ia)) hns ?ee ?_); (case ee => kernel_rfl!)) | ((with_reducible refine' m_nsL (rv := some (.ref ib)) hns ?ee ?_); (case ee => kernel_rfl!)) | ((first | guard_hyp gan | guard_hyp k); with_reducible refine te_in' ?_) | with_reducible refine te_go ?_ | ((first | guard_hyp gan | guard_hyp k); with_reducible refine aq_in ?_) | with_reducible refine aq_go ?_ | with_reducible refine ae_go ?_ | ((first | guard_hyp gan | guard_hyp k); with_reducible refine wpAny_of_eq (by assumption) ?_) | ((first | guard_hyp gan | guard_hyp k); with_reducible refine m_peek KX D9 chg0 (by assumption) ?_) | wp_delta | with_reducible refine wpAny_holding ?_ | with_reducible refine wpAny_standAt ?_ | with_reducible refine wpAny_rule ?_ | with_reducible refine wpAny_fresh' ?_ | ((first | guard_hyp gan | guard_hyp k); with_reducible refine te_in ?_) | ((with_reducible refine' wpAny_load (D9.keep _ _ ?ko nochg) ?_); (case ko => with_reducible first | exact gan | exact gbt | exact gsl | exact gst | exact gI | exact gL | exact gG | exact gE | exact gM | exact gN | exact k.cls | exact k.ns | exact k.dsc | exact k.ini | exact k.lt | exact k.cell | exact gi | exact gj)) | ((with_reducible refine' wpAny_loadPart (D9.keep _ _ ?ko nochg) ?_); (case ko => with_reducible first | exact gan | exact gbt | exact gsl | exact gst | exact gI | exact gL | exact gG | exact gE | exact gM | exact gN | exact k.cls | exact k.ns | exact k.dsc | exact k.ini | exact k.lt | exact k.cell | exact gi | exact gj)) | ((with_reducible refine' m_loadPart D9 ?hm ?_); (case hm => (repeat (first | exact List.Mem.head _ | apply List.Mem.tail)))) | ((with_reducible refine' m_load D9 ?hm ?_); (case hm => (repeat (first | exact List.Mem.head _ | apply List.Mem.tail)))) | ((with_reducible refine' m_alloc D9 ?ho ?_); (case ho => exact rfl); clear D9; intro a hN D9) | ((with_reducible refine' m_updPart D9 ?hp ?hf ?_); (case hp => (repeat (first | exact Put.here | apply Put.there))); (case hf => exact rfl); clear D9; intro hN D9; try dsimp only at D9) | ((with_reducible refine' m_upd D9 ?hp ?hf ?_); (case hp => (repeat (first | exact Put.here | apply Put.there))); (case hf => exact rfl); clear D9; intro hN D9; try dsimp only at D9) | ((with_reducible refine' m_loadC D9 ?hm ?_); (case hm => exact List.Mem.head _)) | ((with_reducible refine' m_loadK KX D9 ?hc ?e ?_); (case hc => first | exact chg0 | exact chg33 _); (case e => k_is)) | ((with_reducible refine' PySem.wpAny_ite_false ?zz ?_); (case zz => kernel_rfl!)) | ((with_reducible refine' PySem.wpAny_ite_true ?zz ?_); (case zz => kernel_rfl!)))
  exact hQ ia _ _ (fun b o e => D9.keep b o e nochg) ⟨_, (D9.nw _ (List.Mem.head _)).1, rfl, rfl, by kernel_rfl!⟩ (D9.nw _ (List.Mem.head _)).2
end
section
/-- the order of rows: more rights first, then names in small letters -/
noncomputable def rlt (a b : Str × Str) : Bool := if rts a.2 = rts b.2 then ltS (low a.1) (low b.1) else decide (rts b.2 < rts a.2)
theorem ltS_asymm {a b : Str} (h : ltS a b = true) : ltS b a = false := by
  unfold ltS at *
  have h := of_decide_eq_true h
  exact decide_eq_false fun h' => absurd (List.lt_trans h h') (List.lt_irrefl _)
theorem rlt_cmpv (a b : Str × Str) : decide (cmpv a.1 a.2 b.1 b.2 < 0) = rlt a b := by
  unfold cmpv rlt
  by_cases h : rts a.2 = rts b.2
  · rw [if_neg (by simpa using h), if_pos h]
    cases h1 : ltS (low a.1) (low b.1) with
    | true => rw [ltS_asymm h1]; rfl
    | false => cases ltS (low b.1) (low a.1) <;> rfl
  · rw [if_pos h, if_neg h]
    exact decide_eq_decide.mpr ⟨fun q => by omega, fun q => by omega⟩
noncomputable def e0R : Str × Str := (Str.ofString "", Str.ofString "")
noncomputable def gR (rows : List (Str × Str)) (i j : Nat) : Bool := rlt (rows.getD i e0R) (rows.getD j e0R)
noncomputable def sortIdx (rows : List (Str × Str)) : List Nat := if rows.length < 2 then List.range rows.length else (run (gR rows) (kas_sort rows.length)).toList
noncomputable def sortR (rows : List (Str × Str)) : List (Str × Str) := (sortIdx rows).map fun i => rows.getD i e0R
theorem sortIdx_lt {rows : List (Str × Str)} : ∀ i ∈ sortIdx rows, i < rows.length := by
  intro i hi
  unfold sortIdx at hi
  split at hi
  · exact List.mem_range.mp hi
  · rename_i h2
    exact asks_run (asks_sort (n := rows.length) (by omega)) i hi
theorem sortR_mem {rows : List (Str × Str)} : ∀ kv ∈ sortR rows, kv ∈ rows := by
  intro kv h
  obtain ⟨i, hi, rfl⟩ := List.mem_map.mp h
  have := sortIdx_lt i hi
  rw [List.getD_eq_getElem?_getD, List.getElem?_eq_getElem this]
  exact List.getElem_mem this
theorem rows_pick {h₀ : Heap} {nw : List (Addr × Obj)} {its : Array Value} {rows : List (Str × Str)} (k : RowsK h₀ nw its rows) {idx : List Nat} (hi : ∀ i ∈ idx, i < rows.length) :
    RowsK h₀ nw (List.toArray (idx.map fun i => its.toList.getD i Value.none)) (idx.map fun i => rows.getD i e0R) := by
  refine ⟨by simp, fun j kv e => ?_⟩
  rw [List.getElem?_map] at e
  obtain ⟨i, ei, rfl⟩ := Option.map_eq_some_iff.mp e
  have hlt := hi i (List.mem_of_getElem? ei)
  obtain ⟨r, t1, t2, q1, q2⟩ := k.2 i rows[i] (List.getElem?_eq_getElem hlt)
  refine ⟨r, t1, t2, ?_, ?_⟩
  · rw [List.getElem?_toArray, List.getElem?_map, ei, Option.map_some, List.getD_eq_getElem?_getD, Array.getElem?_toList, q1]; rfl
  · rw [List.getD_eq_getElem?_getD, List.getElem?_eq_getElem hlt]; exact q2
theorem zero_map : (arrOf ((), SortSt.mk' general' (if false = true then ((#[] : Array Value).zip (#[] : Array Value)).reverse else (#[] : Array Value).zip (#[] : Array Value)) #[] 7 none).snd).map (·.2) = List.toArray [] := by
  have e : (if false = true then ((#[] : Array Value).zip (#[] : Array Value)).reverse else (#[] : Array Value).zip (#[] : Array Value)) = #[] := by simp
  rw [e]
  show (#[] : Array Keyed).map (·.2) = List.toArray []
  simp
section
variable {w : World} {A : Around} {s : Shared} {h₀ : Heap} {L : Addr} {m : Str → Option Value}
theorem zero_end {E : Value → Shared → Prop} {P : PySem.Fin → Shared → Prop} {a kS : Addr} {e e1 : Nat} {news : List (Addr × Obj)} (F : Fr h₀ L s.heap m) (N : News h₀ L s.heap ((kS, seqObj "list" #[] e) :: (a, seqObj "list" #[] e1) :: news)) (hka : a ≠ kS) (ho : ∀ q ∈ news, q.1 ≠ kS ∧ q.1 ≠ a)
    (h : ∀ h' c, Fr h₀ L h' m → News h₀ L h' ((a, lstO #[] c) :: news) → P (.done (.ret .none)) { s with heap := h' }) : wpAny (model PW w) A (ksk_end a false #[] e1 (.ref kS) #[]) P E s := by
  unfold ksk_end
  try dsimp only
  have h12 : (#[] : Array Value).size < 2 := by simp
  rw [if_neg (by decide), if_pos h12, if_pos h12]
  refine wpAny_bind (wpAny_pure ?_)
  rw [StateT.run_pure]
  refine wpAny_bind (wpAny_pure ?_)
  refine kat_tail (h₀ := h₀) (L := L) (m := m) (ks := []) (out := []) (e := e) zero_map (show 0 < 64 by decide) (show 0 < 64 by decide) rfl ?_
  refine KatFin.intro F N (UpdF.head fun p hp => ?_) fun h₁ c₁ F₁ N₁ => KasFin.intro F₁ N₁ (UpdF.tail (Ne.symm hka) (UpdF.head fun p hp => (ho p hp).2)) fun h₂ c₂ F₂ N₂ => h h₂ c₂ F₂ fun p hp => ?_
  · rcases List.mem_cons.mp hp with rfl | hp
    · exact hka
    · exact (ho p hp).1
  · exact N₂ p (List.mem_cons_of_mem _ hp)
theorem sorted_zero {A₀ : Around} {E Q : Value → Shared → Prop} {f : Value} {kw : List (Str × Value)} {l : Addr} {news : List (Addr × Obj)}
    (F : Fr h₀ L s.heap m) (N : News h₀ L s.heap news) (hl : s.heap.IsList l #[])
    (ha1 : argsOk "sorted" ⟨[.ref l], kw⟩) (ha2 : ∀ x, argsOk "list.sort" ⟨[.ref x], kw⟩) (ht : ∀ x, Builtin.«list.sort» ⟨[.ref x], kw⟩ = ksk_tree x f false)
    (hQ : ∀ D h' tk' c, Fr h₀ L h' m → News h₀ L h' ((D, lstO #[] c) :: news) → Q (.ref D) { s with heap := h', toks := tk' }) :
    wpAny (model PW w) A₀ (call (.builtin "sorted") [.ref l] kw) Q E s := by
  refine call_function_entry_kw kind_sorted plain_sorted entry_sorted ha1 ?_
  unfold Builtin.«sorted»
  refine wpAny_bind (m := checkCount "sorted" 1 1 _) (wpAny_pure ?_)
  refine wpAny_bind (collect_list hl ?_ (by rw [sizeLine_eq]; exact Nat.zero_le _))
  refine wpAny_bind (wpAny_newList ?_ (by rw [sizeLine_eq]; exact Nat.zero_le _))
  have hsz : ((s.heap.push (seqObj "list" #[] 0)).update s.heap.objs.size (Obj.mapSeq (· ++ (#[] : Array Value)))).objs.size = s.heap.objs.size + 1 := by rw [Heap.size_update, size_push']
  show wpAny _ _ _ _ _ { s with heap := ((s.heap.push (seqObj "list" #[] 0)).update s.heap.objs.size (Obj.mapSeq (· ++ (#[] : Array Value)))).push (seqObj "list" (#[] : Array Value) 0) }
  rw [hsz]
  generalize hh1 : (((s.heap.push (seqObj "list" #[] 0)).update s.heap.objs.size (Obj.mapSeq (· ++ (#[] : Array Value)))).push (seqObj "list" (#[] : Array Value) 0)) = h₁
  have hoL : h₁.get? (s.heap.objs.size + 1) = some (seqObj "list" (#[] : Array Value) 0) := by
    rw [← hh1, ← hsz]; exact Heap.get?_push_size _ rfl
  have keep : Up s.heap h₁ := fun b o q => by
    have hlt : b < s.heap.objs.size := Heap.lt_size q
    rw [← hh1, Heap.get?_push_ne _ _ _ (by rw [hsz]; exact Nat.ne_of_lt (Nat.lt_succ_of_lt hlt)), Heap.get?_update_ne _ _ _ _ (Nat.ne_of_lt hlt), Heap.get?_push_ne _ _ _ (Nat.ne_of_lt hlt)]
    exact q
  have hL : L < s.heap.objs.size := F.ns.lt
  generalize ha : s.heap.objs.size + 1 = a at hoL ⊢
  have haL : a ≠ L := by rw [← ha]; exact Nat.ne_of_gt (Nat.lt_succ_of_lt hL)
  have ha0 : h₀.get? a = none := Heap.get?_none_of_le (by rw [← ha]; exact Nat.le_trans F.above (Nat.le_succ_of_le (Nat.le_of_lt hL)))
  have hna : ∀ p ∈ news, p.1 ≠ a := fun p hp => by rw [← ha]; exact Nat.ne_of_lt (Nat.lt_succ_of_lt (Heap.lt_size (N p hp).1))
  have F := F.keeps keep
  have N := N.grown keep
  refine wpAny_bind (wpAny_holding (wpAny_call_entry_kw slot_list_sort ⟨_, hoL, rfl⟩ entry_list_sort ?body (ha2 _)))
  case body =>
    show wpAny (model PW w) A₀.in1.in1 (Builtin.«list.sort» ⟨[.ref a], kw⟩) _ _ _
    rw [ht a]
    have s1 := Heap.SameBut.update h₁ a (Obj.mapSeq fun _ => (#[] : Array Value))
    obtain ⟨e1, ho1⟩ : ∃ e1, (h₁.update a (Obj.mapSeq fun _ => (#[] : Array Value))).get? a = some (seqObj "list" #[] e1) := ⟨_, get?_update_seq hoL fun _ => #[]⟩
    have F1 := kas_fr F s1 haL ha0
    have N1 := kas_news N s1 hna
    unfold ksk_tree
    refine wpAny_bind (listItems_at hoL rfl ?_)
    refine wpAny_bind (listUpdate_at hoL rfl ?_ (by rw [sizeLine_eq]; exact Nat.zero_le _) (Nat.zero_le _))
    refine wpAny_bind (seqEpoch_at ho1 rfl ?_)
    refine wpAny_bind (wpAny_newTuple ?_ (Nat.zero_le _))
    refine wpAny_bind (wpAny_newList ?_ (Nat.zero_le _))
    refine wpAny_holding ?_
    show wpAny _ _ (ksk_rest a f false (#[] : Array Value) e1 (.ref ((h₁.update a (Obj.mapSeq fun _ => (#[] : Array Value))).push (seqObj "tuple" (#[] : Array Value) 0)).objs.size)) _ _ { s with heap := ((h₁.update a (Obj.mapSeq fun _ => (#[] : Array Value))).push (seqObj "tuple" (#[] : Array Value) 0)).push (seqObj "list" #[] 0) }
    generalize hh2 : (h₁.update a (Obj.mapSeq fun _ => (#[] : Array Value))).push (seqObj "tuple" (#[] : Array Value) 0) = h₂
    have F2 : Fr h₀ L h₂ m := hh2 ▸ F1.push _
    have up2 : ∀ b o, (h₁.update a (Obj.mapSeq fun _ => (#[] : Array Value))).get? b = some o → h₂.get? b = some o := fun b o q => hh2 ▸ Heap.get?_push_of_some _ q
    have hk3 : (h₂.push (seqObj "list" #[] 0)).get? h₂.objs.size = some (seqObj "list" #[] 0) := Heap.get?_push_size _ rfl
    have hkL : L < h₂.objs.size := F2.ns.lt
    have hlt2 : ∀ b o, h₂.get? b = some o → b < h₂.objs.size := fun b o q => Heap.lt_size q
    generalize hkS : h₂.objs.size = kS at hk3 hkL hlt2 ⊢
    have F3 : Fr h₀ L (h₂.push (seqObj "list" #[] 0)) m := F2.push _
    have N3 : News h₀ L (h₂.push (seqObj "list" #[] 0)) news := fun p hp => ⟨Heap.get?_push_of_some _ (up2 _ _ (N1 p hp).1), (N1 p hp).2⟩
    have hka : a ≠ kS := Nat.ne_of_lt (hlt2 _ _ (up2 _ _ ho1))
    have nk3 : ∀ q ∈ news, q.1 ≠ kS ∧ q.1 ≠ a := fun q hq => ⟨Nat.ne_of_lt (hlt2 _ _ (up2 _ _ (N1 q hq).1)), hna q hq⟩
    have ha3 : (h₂.push (seqObj "list" #[] 0)).get? a = some (seqObj "list" #[] e1) := Heap.get?_push_of_some _ (up2 _ _ ho1)
    unfold ksk_rest
    refine wpAny_bind (wpAny_rule ?_)
    rw [← Array.forIn_toList]
    refine wpAny_bind ?_
    show wpAny _ _ (forIn ([] : List Value) PUnit.unit _) _ _ _
    rw [List.forIn_nil]
    refine wpAny_pure ?_
    try dsimp only
    have hkL' : kS ≠ L := Nat.ne_of_gt hkL
    have hk0 : h₀.get? kS = none := Heap.get?_none_of_le (Nat.le_trans F2.above (Nat.le_of_lt hkL))
    refine wpAny_bind (listItems_at hk3 rfl ?_)
    refine zero_end (news := news) (e := 0) F3 ?_ hka nk3 ?_
    · intro p hp
      rcases List.mem_cons.mp hp with rfl | hp
      · exact ⟨hk3, hkL', hk0⟩
      · rcases List.mem_cons.mp hp with rfl | hp
        · exact ⟨ha3, haL, ha0⟩
        · exact N3 p hp
    · intro h9 c9 F9 N9
      exact ⟨_, rfl, wpAny_pure ⟨_, rfl, hQ _ _ _ _ F9 N9⟩⟩
end
section
variable {w : World} {A : Around} {s : Shared} {h₀ : Heap} {L : Addr} {m : Str → Option Value}
/-- sorted with a key, of any rows below 64 -/
theorem sorted_any {A₀ : Around} {E Q : Value → Shared → Prop} {f : Value} {kw : List (Str × Value)} {its : Array Value} {rows : List (Str × Str)} {l : Addr} {news nr : List (Addr × Obj)} {κ₀ : SortKind} (Key : List (Addr × Obj) → Nat → Value → Prop) (mono : ∀ nw nw' i k, Key nw i k → (∀ q ∈ nw, q ∈ nw') → Key nw' i k)
    (F : Fr h₀ L s.heap m) (N : News h₀ L s.heap news) (hl : s.heap.IsList l its) (kR : RowsK h₀ nr its rows) (h64 : rows.length < 64)
    (ha1 : argsOk "sorted" ⟨[.ref l], kw⟩) (ha2 : ∀ x, argsOk "list.sort" ⟨[.ref x], kw⟩) (ht : ∀ x, Builtin.«list.sort» ⟨[.ref x], kw⟩ = ksk_tree x f false)
    (hkey : KeyCall w A₀.in1.in1 s h₀ L m f its.toList news Key)
    (hkind : ∀ ks h tk nw, ks.length = its.toList.length → 2 ≤ ks.length → (∀ i k, ks[i]? = some k → Key nw i k) → Fr h₀ L h m → News h₀ L h nw → ∀ Q' : SortKind → Shared → Prop, Q' κ₀ { s with heap := h, toks := tk } → wpAny (model PW w) A₀.in1.in1 (keyKind' (List.toArray ks)) Q' (fun _ _ => False) { s with heap := h, toks := tk })
    (hlt : ∀ i j ki kj h tk nw, i < rows.length → j < rows.length → Key nw i ki → Key nw j kj → Fr h₀ L h m → News h₀ L h nw → (∀ q ∈ news, q ∈ nw) → ∀ Q' : Bool → Shared → Prop, (∀ h' tk', Up h h' → Q' (gR rows i j) { s with heap := h', toks := tk' }) → wpAny (model PW w) A₀.in1.in1 (keyLt' κ₀ ki kj) Q' (fun _ _ => False) { s with heap := h, toks := tk })
    (hQ : ∀ D its' h' tk' c, Fr h₀ L h' m → News h₀ L h' ((D, lstO its' c) :: news) → RowsK h₀ nr its' (sortR rows) → Q (.ref D) { s with heap := h', toks := tk' }) :
    wpAny (model PW w) A₀ (call (.builtin "sorted") [.ref l] kw) Q E s := by
  have hsz : its.toList.length = rows.length := by rw [Array.length_toList]; exact kR.1
  have pick := rows_pick kR (sortIdx_lt (rows := rows))
  by_cases h2 : rows.length < 2
  · have hs : sortIdx rows = List.range rows.length := by unfold sortIdx; rw [if_pos h2]
    rw [hs] at pick
    rcases hr : rows with _ | ⟨kv, _ | ⟨kv', r⟩⟩
    · have e : its = #[] := Array.eq_empty_of_size_eq_zero (by rw [kR.1, hr]; rfl)
      subst e
      refine sorted_zero F N hl ha1 ha2 ht fun D h' tk' c F' N' => hQ D #[] h' tk' c F' N' ?_
      rw [hr]; exact ⟨rfl, fun i a q => by simp [sortR, sortIdx] at q⟩
    · obtain ⟨r, t1, t2, q1, q2⟩ := kR.2 0 kv (by rw [hr]; rfl)
      have e : its = #[.ref r] := by
        have h1 : its.size = 1 := by rw [kR.1, hr]; rfl
        refine Array.ext (by rw [h1]; rfl) fun i hi hi' => ?_
        have h0 : i = 0 := by omega
        subst h0
        have := (Array.getElem?_eq_some_iff.mp q1).2
        simpa using this
      subst e
      refine sorted_one Key F N hl ha1 ha2 ht hkey fun D h' tk' c F' N' => hQ D #[.ref r] h' tk' c F' N' ?_
      rw [hr] at pick ⊢
      have e1 : sortIdx [kv] = List.range [kv].length := if_pos (show ([kv] : List (Str × Str)).length < 2 from by simp)
      unfold sortR
      rw [e1]
      exact pick
    · rw [hr] at h2; exact absurd h2 (by simp)
  · have hs : sortIdx rows = (run (gR rows) (kas_sort its.toList.length)).toList := by unfold sortIdx; rw [if_neg h2, hsz]
    rw [hs] at pick
    refine sorted_big (vs := its.toList) (g := gR rows) (κ₀ := κ₀) Key mono F N (by rw [Array.toArray_toList]; exact hl) (by omega) (by omega) ha1 ha2 ht hkey
      (fun ks h tk nw hk => hkind ks h tk nw hk (by omega)) (fun i j ki kj h tk nw hi hj => hlt i j ki kj h tk nw (by omega) (by omega)) fun D h' tk' c F' N' => hQ D _ h' tk' c F' N' ?_
    unfold sortR
    rw [hs]
    exact pick
end
end
section
section
variable {w : World} {p : Program} {loose : List Str} {mg mb : Str → Option Value} {s : Shared} {h₀ : Heap} {L : Addr} {m : Str → Option Value}
theorem looks_ref {M : Model} {h : Heap} {a : Addr} {o : Obj} (ho : h.get? a = some o) : Looks M h (typeOf (.ref a)) o.cls := (Looks.ld ho).andThen .now
theorem row_at {nw : List (Addr × Obj)} {its : Array Value} {rows : List (Str × Str)} (k : RowsK h₀ nw its rows) {i : Nat} (hi : i < rows.length) :
    ∃ r t1 t2, its[i]? = some (Value.ref r) ∧ Kept h₀ nw r (tupO [.str (rows.getD i e0R).1 t1, .str (rows.getD i e0R).2 t2]) ∧ rows.getD i e0R ∈ rows := by
  obtain ⟨r, t1, t2, q1, q2⟩ := k.2 i rows[i] (List.getElem?_eq_getElem hi)
  rw [List.getD_eq_getElem?_getD, List.getElem?_eq_getElem hi]
  exact ⟨r, t1, t2, q1, q2, List.getElem_mem hi⟩
theorem row_lt {nw : List (Addr × Obj)} {its : Array Value} {rows : List (Str × Str)} (k : RowsK h₀ nw its rows) {i : Nat} {v : Value} (hv : its.toList[i]? = some v) : i < rows.length := by
  have := (List.getElem?_eq_some_iff.mp hv).1
  rw [Array.length_toList, k.1] at this; exact this
/-- rows sorted by cmp_to_key of the comparison -/
theorem sort1_c {A₀ : Around} {E Q : Value → Shared → Prop} {aK l : Addr} {x : KDat} {its : Array Value} {rows : List (Str × Str)} {news nr nk : List (Addr × Obj)}
    (TW : Tops w p loose mg mb) (X : (KK w.params).In h₀) (RA : Room 7 A₀) (F : Fr h₀ L s.heap m) (N : News h₀ L s.heap news) (hl : s.heap.IsList l its) (kR : RowsK h₀ nr its rows) (hsub : ∀ q ∈ nr, q ∈ news) (h64 : rows.length < 64)
    (good : ∀ kv ∈ rows, kv.1 ∈ NM ∧ okS kv.2) (hnk : ∀ q ∈ nk, q ∈ news) (hk : ∀ h'', (∀ q ∈ nk, h''.get? q.1 = some q.2) → KOk h'' aK x)
    (hQ : ∀ D its' h' tk' c, Fr h₀ L h' m → News h₀ L h' ((D, lstO its' c) :: news) → RowsK h₀ nr its' (sortR rows) → Q (.ref D) { s with heap := h', toks := tk' }) :
    wpAny (model PW w) A₀ (call (.builtin "sorted") [.ref l] [(Str.ofString "key", .ref aK)]) Q E s := by
  obtain ⟨hp, g, d, t, os⟩ := s
  have RB : Room 5 A₀.in1.in1 := RA.in1.in1
  refine sorted_any (rows := rows) (its := its) (κ₀ := oneType') (fun nw i k => ∃ a o r, k = .ref a ∧ its[i]? = some (.ref r) ∧ (a, o) ∈ nw ∧ o.cls = .ref aK ∧ o.data = .plain ∧ o.slots = #[some (.ref r)]) ?mono F N hl kR h64
    (ksk_s1 _ _) (fun _ => ksk_l1 _ _) (fun _ => ksk_t1 _ _) ?key ?kind ?lt hQ
  case mono =>
    rintro nw nw' i k ⟨a, o, r, q1, q2, q3, q4⟩ hs
    exact ⟨a, o, r, q1, q2, hs _ q3, q4⟩
  case key =>
    intro i v h tk nw hv F N hs Q' hq
    obtain ⟨r, t1, t2, q1, q2, -⟩ := row_at kR (row_lt kR hv)
    rw [Array.getElem?_toList, q1] at hv
    cases hv
    refine new_c TW (Frag.In.keeps X F.keep) (RB.less (by decide)) (hk _ fun q hq => (N q (hs q (hnk q hq))).1) fun a h' tk' up Ia fr => ?_
    obtain ⟨o, e1, e2, e3, e4⟩ := Ia
    exact hq (.ref a) h' tk' [(a, o)] up (fun q hq => by rw [List.mem_singleton.mp hq]; exact ⟨e1, fr⟩) ⟨a, o, r, rfl, q1, List.Mem.head _, e2, e3, e4⟩
  case kind =>
    intro ks h tk nw hlen h2 hK F N Q' hq
    refine kas_kind (T := .ref aK) h2 (fun v hv => ?_) rfl (beq_self_eq_true _) hq
    obtain ⟨i, hi⟩ := List.getElem?_of_mem hv
    obtain ⟨a, o, r, rfl, -, q3, q4, -⟩ := hK i v hi
    have := looks_ref (M := model PW w) (N _ q3).1
    rw [q4] at this
    exact this
  case lt =>
    rintro i j ki kj h tk nw hi hj ⟨a, o, r, rfl, a1, a2, a3, a4, a5⟩ ⟨b, o', r', rfl, b1, b2, b3, b4, b5⟩ F N hs Q' hq
    obtain ⟨r1, t1, t2, p1, p2, p3⟩ := row_at kR hi
    obtain ⟨r2, t3, t4, s1, s2, s3⟩ := row_at kR hj
    rw [p1] at a1; cases a1
    rw [s1] at b1; cases b1
    have e : gR rows i j = decide (cmpv (rows.getD i e0R).1 (rows.getD i e0R).2 (rows.getD j e0R).1 (rows.getD j e0R).2 < 0) := (rlt_cmpv _ _).symm
    rw [e] at hq
    exact lt_c TW (Frag.In.keeps X F.keep) RB (hk _ fun q hq => (N q (hs q (hnk q hq))).1) ⟨o, (N _ a2).1, a3, a4, a5⟩ ⟨o', (N _ b2).1, b3, b4, b5⟩ ((p2.mono fun q hq => hs _ (hsub _ hq)).get F N) ((s2.mono fun q hq => hs _ (hsub _ hq)).get F N) (good _ p3).2 (good _ s3).2 (good _ p3).1 (good _ s3).1 hq
/-- a call of a lambda that the call has made -/
theorem enterL {n : Nat} {A : Around} {Q E : Value → Shared → Prop} {name qual : Str} {params : Arguments} {body : PySem.Expr} {scope : Scope} {cl : List (Str × Addr)} {pm ctv : Value} {c' f : Addr} {pos : List Value} {binds : List (Str × Value)}
    (TW : Tops w p loose mg mb) (KX : (KK w.params).In s.heap) (hroom : Room (n + 1) A) (ho : s.heap.get? f = some (kla_obj name qual params body scope cl pm c' ctv)) (hcd : s.heap.CodeRec (.ref c') qual)
    (hbind : bindArgs (kla_fn name qual params body scope cl pm (.ref c') ctv) ⟨pos, []⟩ = pure binds) (hloc : ∀ y ∈ binds, scope.names.lookup y.1 = some .local)
    (h : ∀ h₀ L h₁ tk, Fr h₀ L h₁ (fun y => binds.reverse.lookup y) → News h₀ L h₁ [] → (KK w.params).In h₀ → TopRead p loose mg mb h₀ → Up s.heap h₀ → Up h₀ s.heap → Room n ((AL n).deeper (envX qual scope L f (.ref c') cl)) →
      wpAny (model PW w) ((AL n).deeper (envX qual scope L f (.ref c') cl)) (eval body (envX qual scope L f (.ref c') cl)) Q (fun _ _ => False) { s with heap := h₁, toks := tk })
    (hcell : ∀ x ∈ scope.names, x.2 ≠ .cell) (hco : scope.isCoroutine = false := by rfl) (hgen : scope.isGenerator = false := by rfl) (hk : scope.kind = .function := by rfl) :
    wpAny (model PW w) A (call (.ref f) pos []) Q E s := by
  refine wpAny_call ?_
  refine kla_callFunE (Nat.lt_of_le_of_lt (Nat.le_trans (Nat.le_add_right _ _) hroom.depth) (by decide)) ho rfl hco hgen rfl hcd ?_
  rw [hbind]
  refine wpAny_pure (wpAny_newFunctionEnv hcell hloc (fun h₁ hns hsb => ⟨((TW _ KX).nolimit).fresh _ hsb, ?_⟩) hk)
  show codeAny _ _ (.expr body (envX qual scope s.heap.objs.size f (.ref c') cl)) _ _
  have hk₁ : ∀ b o, s.heap.get? b = some o → h₁.get? b = some o := fun b o e => hsb.extBut b o (Nat.ne_of_lt (Heap.lt_size e)) (Heap.get?_push_of_some _ e)
  refine kla_codeExpr (weakenL hroom (wpAny_mono (h s.heap s.heap.objs.size h₁ _ ⟨hns, hk₁, Nat.le_refl _⟩ (fun _ h => nomatch h) KX (TW _ KX) (fun _ _ e => e) (fun _ _ e => e) ⟨rfl, by have := hroom.depth; show 899 - n + 1 + n ≤ 900; omega, by have := hroom.units; show 1990 - 10 * n + 3 + 10 * n ≤ 2000; omega⟩) (fun _ _ h => h) fun _ _ h => h.elim))
/-- rows sorted by the pair of their rights, turned, and their name in small letters -/
theorem sort2_c {A₀ : Around} {E Q : Value → Shared → Prop} {f l : Addr} {its : Array Value} {rows : List (Str × Str)} {news nr : List (Addr × Obj)}
    (F : Fr h₀ L s.heap m) (N : News h₀ L s.heap news) (hl : s.heap.IsList l its) (kR : RowsK h₀ nr its rows) (hsub : ∀ q ∈ nr, q ∈ news) (h64 : rows.length < 64)
    (good : ∀ kv ∈ rows, kv.1 ∈ NM ∧ okS kv.2)
    (hlam : ∀ (h : Heap) (tk : Nat) (nw : List (Addr × Obj)) (r : Addr) (k v : Str) (t1 t2 : Tok), Fr h₀ L h m → News h₀ L h nw → (∀ q ∈ news, q ∈ nw) → h.get? r = some (tupO [.str k t1, .str v t2]) → k ∈ NM → okS v → ∀ Q' : Value → Shared → Prop,
      (∀ a h' tk' u1 u2, Up h h' → h'.get? a = some (tupO [.int (-rts v) u1, .str (low k) u2]) → h.get? a = none → Q' (.ref a) { s with heap := h', toks := tk' }) → wpAny (model PW w) A₀.in1.in1 (call (.ref f) [.ref r]) Q' (fun _ _ => False) { s with heap := h, toks := tk })
    (hQ : ∀ D its' h' tk' c, Fr h₀ L h' m → News h₀ L h' ((D, lstO its' c) :: news) → RowsK h₀ nr its' (sortR rows) → Q (.ref D) { s with heap := h', toks := tk' }) :
    wpAny (model PW w) A₀ (call (.builtin "sorted") [.ref l] [(Str.ofString "key", .ref f)]) Q E s := by
  refine sorted_any (rows := rows) (its := its) (κ₀ := tuples' true) (fun nw i k => ∃ a u1 u2, k = .ref a ∧ i < rows.length ∧ (a, tupO [.int (-rts (rows.getD i e0R).2) u1, .str (low (rows.getD i e0R).1) u2]) ∈ nw) ?mono F N hl kR h64
    (ksk_s1 _ _) (fun _ => ksk_l1 _ _) (fun _ => ksk_t1 _ _) ?key ?kind ?lt hQ
  case mono =>
    rintro nw nw' i k ⟨a, u1, u2, q1, q2, q3⟩ hs
    exact ⟨a, u1, u2, q1, q2, hs _ q3⟩
  case key =>
    intro i v h tk nw hv F N hs Q' hq
    have hi := row_lt kR hv
    obtain ⟨r, t1, t2, q1, q2, q3⟩ := row_at kR hi
    rw [Array.getElem?_toList, q1] at hv
    cases hv
    exact hlam h tk nw r _ _ t1 t2 F N hs ((q2.mono fun q hq => hs _ (hsub _ hq)).get F N) (good _ q3).1 (good _ q3).2 _ fun a h' tk' u1 u2 up ga fr =>
      hq (.ref a) h' tk' [(a, _)] up (fun q hq => by rw [List.mem_singleton.mp hq]; exact ⟨ga, fr⟩) ⟨a, u1, u2, rfl, hi, List.Mem.head _⟩
  case kind =>
    intro ks h tk nw hlen h2 hK F N Q' hq
    have tups : ∀ (ks : List Value), (∀ k ∈ ks, ∃ a x u1 y, k = .ref a ∧ h.get? a = some (tupO [.int x u1, y])) → ∃ fs : List Value, KatTups h ks fs ∧ fs.length = ks.length ∧ ∀ v ∈ fs, ∃ x t, v = .int x t := by
      intro ks
      induction ks with
      | nil => intro _; exact ⟨[], KatTups.nil, rfl, fun _ h => nomatch h⟩
      | cons k ks ih =>
        intro hk
        obtain ⟨fs, h1, h2, h3⟩ := ih fun k' hk' => hk k' (List.mem_cons_of_mem _ hk')
        obtain ⟨a, x, u1, y, rfl, ga⟩ := hk k (List.Mem.head _)
        refine ⟨.int x u1 :: fs, KatTups.cons ga rfl rfl rfl h1, by rw [List.length_cons, List.length_cons, h2], fun v hv => ?_⟩
        rcases List.mem_cons.mp hv with rfl | hv
        · exact ⟨x, u1, rfl⟩
        · exact h3 v hv
    obtain ⟨fs, h1, h2', h3⟩ := tups ks fun k hk => by
      obtain ⟨i, hi⟩ := List.getElem?_of_mem hk
      obtain ⟨a, u1, u2, q1, -, q3⟩ := hK i k hi
      exact ⟨a, _, u1, _, q1, (N _ q3).1⟩
    refine kat_kind (s := { s with heap := h, toks := tk }) (T := .type "int") h1 (by omega) (fun v hv => ?_) rfl hq
    obtain ⟨x, t, rfl⟩ := h3 v hv
    exact Looks.of_pure rfl
  case lt =>
    rintro i j ki kj h tk nw hi hj ⟨a, u1, u2, rfl, a1, a2⟩ ⟨b, u3, u4, rfl, b1, b2⟩ F N hs Q' hq
    have hq' := hq h tk (fun _ _ e => e)
    unfold gR rlt at hq'
    refine kat_lt (N _ a2).1 rfl (N _ b2).1 rfl ?_
    refine kat_cons (wpAny_eqBool_int ?_)
    refine kat_go (fun h1 => kat_yes (kat_cons (wpAny_eqBool_str ?_))) (fun h1 => kat_no ?_)
    · have e1 : rts (rows.getD i e0R).2 = rts (rows.getD j e0R).2 := by have := eq_of_beq h1; omega
      rw [if_pos e1] at hq'
      refine kat_go (fun h2 => kat_yes (kat_nil ?_)) (fun h2 => kat_no ?_)
      · have e2 := of_decide_eq_true h2
        have e3 : ltS (low (rows.getD i e0R).1) (low (rows.getD j e0R).1) = false := by rw [e2]; exact decide_eq_false (List.lt_irrefl _)
        rw [e3] at hq'
        exact hq'
      · exact kat_one _ _ (lt_str hq')
    · have e1 : ¬ rts (rows.getD i e0R).2 = rts (rows.getD j e0R).2 := fun e => by rw [e] at h1; simp at h1
      rw [if_neg e1] at hq'
      refine oneLt_int ?_
      have e2 : decide (-rts (rows.getD i e0R).2 < -rts (rows.getD j e0R).2) = decide (rts (rows.getD j e0R).2 < rts (rows.getD i e0R).2) := decide_eq_decide.mpr ⟨fun q => by omega, fun q => by omega⟩
      rw [e2]
      exact hq'
end
end
section
open PySem.SeqAt PySem.Spec
/-- a list of texts stands at a reference -/
noncomputable def StrsAt (h : Heap) (v : Value) (xs : List Str) : Prop := ∃ a its e, v = .ref a ∧ h.get? a = some (lstO (List.toArray its) e) ∧ Strs its xs
theorem reads_lls {h : Heap} : ∀ {vs : List Value} {xss : List (List Str)}, All2 (StrsAt h) vs xss → ∃ as, ReadsAll h vs (xss.map fun xs => PyData.list (pdS xs)) as
  | [], [], _ => ⟨_, .nil⟩
  | _, _, .cons (y := xs) ⟨a, its, e, e1, e2, e3⟩ t => by
    obtain ⟨as, ra⟩ := reads_lls t
    obtain ⟨bs, rb⟩ := reads_strsL e2 e3
    subst e1
    exact ⟨_, .cons rb ra⟩
section
variable {w : World} {p : Program} {loose : List Str} {mg mb : Str → Option Value} {s : Shared} {h₀ : Heap} {L : Addr} {m : Str → Option Value}
theorem ne_lls_c {A : Around} {E Q : Value → Shared → Prop} {a b : Addr} {vs ws : List Value} {xss : List (List Str)} {e e' : Nat} (ha : s.heap.get? a = some (lstO vs.toArray e)) (hs : All2 (StrsAt s.heap) vs xss) (hok : ∀ xs ∈ xss, ∀ x ∈ xs, okS x) (hb : s.heap.get? b = some (lstO ws.toArray e')) (hs' : All2 (StrsAt s.heap) ws xss) (hu : A.units + 64 < cLine) (h : Q (.bool false) s) :
    wpAny (model PW w) A (compareOp .NotEq (.ref a) (.ref b)) Q E s := by
  obtain ⟨as, ra⟩ := reads_lls hs
  obtain ⟨bs, rb⟩ := reads_lls hs'
  have hl : ∀ d ∈ xss.map fun xs => PyData.list (pdS xs), d.canLay0 = true ∧ d.depth ≤ 1 := by
    intro d hd
    obtain ⟨xs, hx, rfl⟩ := List.mem_map.mp hd
    exact lay_list (lay_strs (hok xs hx))
  refine ne_dataH (reads_list_at ha rfl rfl (by simpa using ra)) (reads_list_at hb rfl rfl (by simpa using rb)) (shaped_of (lay_list hl) (by decide)) (shaped_of (lay_list hl) (by decide)) hu ?_
  have e1 : PyData.eqv (.list (xss.map fun xs => PyData.list (pdS xs))) (.list (xss.map fun xs => PyData.list (pdS xs))) = true := by
    simp only [PyData.eqv]
    refine eqvAll_refl fun d hd => ?_
    obtain ⟨xs, _, rfl⟩ := List.mem_map.mp hd
    exact eqv_strs xs
  rw [e1]; exact h
/-- a ledger's part without the two tables -/
noncomputable def ft (ext : List (Addr × Obj)) : List (Addr × Obj) := ext.filter fun q => decide (q.1 ≠ 33) && decide (q.1 ≠ 282)
theorem ft_mem {ext : List (Addr × Obj)} {q : Addr × Obj} (h : q ∈ ft ext) : q ∈ ext := (List.mem_filter.mp h).1
theorem ft_ne {ext : List (Addr × Obj)} {q : Addr × Obj} (h : q ∈ ft ext) : q.1 ≠ 33 ∧ q.1 ≠ 282 := by
  have := (List.mem_filter.mp h).2
  simpa using this
theorem kept_ft {h : Heap} {ext : List (Addr × Obj)} {a : Addr} {o : Obj} (N : News h₀ L h ext) (h33 : ((33 : Addr), tableObj #[]) ∈ ext) (h282 : ((282 : Addr), tableObj #[]) ∈ ext) (k : Kept h₀ ext a o) (hd : ∀ vs, o.data ≠ .fields vs) : Kept h₀ (ft ext) a o := by
  rcases k with k | k
  · exact .inl k
  · right
    have g := (N _ k).1
    have ne : ∀ b : Addr, (b, tableObj #[]) ∈ ext → a ≠ b := fun b hb e => by
      have g2 := (N _ hb).1
      dsimp only at g g2
      rw [e, g2] at g
      exact hd #[] (by rw [← Option.some.inj g]; rfl)
    exact List.mem_filter.mpr ⟨k, by simpa using ⟨ne 33 h33, ne 282 h282⟩⟩
theorem rowsK_ft {h : Heap} {ext : List (Addr × Obj)} {its : Array Value} {rows : List (Str × Str)} (N : News h₀ L h ext) (h33 : ((33 : Addr), tableObj #[]) ∈ ext) (h282 : ((282 : Addr), tableObj #[]) ∈ ext) (k : RowsK h₀ ext its rows) : RowsK h₀ (ft ext) its rows :=
  ⟨k.1, fun i kv e => by obtain ⟨r, t1, t2, q1, q2⟩ := k.2 i kv e; exact ⟨r, t1, t2, q1, kept_ft N h33 h282 q2 (fun _ e => by cases e)⟩⟩
/-- law's code object and its table -/
theorem code284 {h : Heap} (X : (KK w.params).In h) : CodeHd h 284 282 :=
  ⟨_, _, _, _, _, _, _, _, _, X 284 _ (by k_is), rfl, rfl, rfl, rfl, rfl, rfl, rfl, rfl, by decide⟩
/-- law's lambda is made -/
theorem lamMake_c {A : Around} {E Q : Value → Shared → Prop} {name qual : Str} {params : Arguments} {body : PySem.Expr} {scope : Scope} {env : Env} {pos : Pos} {firstLine : Nat} {clos : List (Str × Addr)}
    (TW : Tops w p loose mg mb) (X : (KK w.params).In s.heap) (hP : s.heap.get? 282 = some (tableObj #[])) (hcl : closureFor scope env = pure clos) (hge0 : env.globals = mainGlobals) (hcode : env.code = .ref 284)
    (h : ∀ f c' oc vs tq pm ctv h' tk ps', UpBut 282 s.heap h' → h'.get? 282 = some (tabObj ps') → (∀ q ∈ [(f, kla_obj name qual params body scope clos pm c' ctv), (c', oc)], h'.get? q.1 = some q.2 ∧ s.heap.get? q.1 = none) → oc.data = .fields vs → vs[1]? = some (.str qual tq) → Q (.ref f) { s with heap := h', toks := tk }) :
    wpAny (model PW w) A (makeFunction name qual params (.expr body) scope env [] [] [] pos firstLine) Q E s := by
  have T := TW _ X
  have hb4 : mg "__builtins__" = some (.ref 4) := mg_of X T.g (by kernel_rfl)
  obtain ⟨o3, _, _, e3, d3, _⟩ := T.g
  have g3 : mainGlobals ≠ 282 := by decide
  have k4 : (KK w.params).lookup 4 = some { cls := .type "module", dict := some 0 } := by kernel_rfl
  refine kla_makeFunction (mg := mg) hcl hge0 T.g hcode (code284 X) hP (ps := #[]) trivial rfl g3 ⟨4, _, hb4, by decide, by decide, by decide, X 4 _ k4, rfl, rfl, rfl⟩ fun c' ctv h' tk hx hge hlt hrec htb => ?_
  obtain ⟨c₂, oc, vs, tq, e2, hoc, hd, hv⟩ := hrec
  cases e2
  have fresh : ∀ b, s.heap.objs.size ≤ b → s.heap.get? b = none := fun b hb => Heap.get?_none_of_le hb
  refine h h'.objs.size c' oc vs tq ((mg "__name__").getD .none) ctv _ tk _ (fun b o n e => Heap.get?_push_of_some _ (hx b o n e)) (Heap.get?_push_of_some _ htb) (fun q hq => ?_) hd hv
  rcases List.mem_cons.mp hq with rfl | hq
  · exact ⟨Heap.get?_push_size _ rfl, fresh _ (Nat.le_trans hge (Nat.le_of_lt hlt))⟩
  · rw [List.mem_singleton.mp hq]
    exact ⟨Heap.get?_push_of_some _ hoc, fresh _ hge⟩
end
end
section
open LCg
section
variable {w : World} {A : Around} {s : Shared} {h₀ : Heap} {L : Addr} {m : Str → Option Value} {env : Env}
theorem compEnd_mono {s₁ : Shared} {I C D : Addr} {oI oC oD : Obj} {S : List (Addr × Obj) → Prop} {r r' : Value → List (Addr × Obj) → Prop} {y : Value} {s₂ : Shared} (h : CompEnd h₀ L m s₁ I oI C oC D oD S r y s₂) (hr : ∀ y n, r y n → r' y n) : CompEnd h₀ L m s₁ I oI C oC D oD S r' y s₂ := by
  obtain ⟨h', tk, nw, e, F, N, o, hS, z⟩ := h
  exact ⟨h', tk, nw, e, F, N, o, hS, hr _ _ z⟩
/-- all turns of a comprehension, by what holds between them -/
theorem restU_run {elt : PySem.Expr} {x : Str} {scope : Scope} {cl : List (Str × Addr)} {S : List (Addr × Obj) → Prop} {P : Nat → Value → Prop} {Fin : List Value → List (Addr × Obj) → Prop} (n : Nat) (Inv : Nat → List Value → List (Addr × Obj) → Prop)
    (fin : ∀ ys nw, Inv n ys nw → Fin ys nw)
    (step : ∀ i ys nw, i < n → Inv i ys nw → ∀ v I oI C oC D m₂ h tk (E' : Value → Shared → Prop), P i v → NsObj oC m₂ → m₂ x = some v → Fr h₀ L h m → News h₀ L h ((I, oI) :: (C, oC) :: (D, lst ys) :: nw) → Off3 I C D nw → ((@Ne Nat I C) ∧ (@Ne Nat I D) ∧ (@Ne Nat C D)) →
      wpAny (model PW w) A (eval elt (compEnvC scope cl C env)) (CompEnd h₀ L m { s with heap := h, toks := tk } I oI C oC D (lst ys) S (fun y nw' => Inv (i + 1) (ys ++ [y]) nw')) E' { s with heap := h, toks := tk }) :
    ∀ k i ys nw, i + k = n → Inv i ys nw → CompRest PW w A h₀ L m env elt x scope cl s S P Fin k i ys nw
  | 0, i, ys, nw, e, h => fin ys nw (by rw [← e]; exact h)
  | k + 1, i, ys, nw, e, hi => fun v I oI C oC D m₂ h tk E' hv hNs hx F N off ne =>
    wpAny_mono (step i ys nw (by omega) hi v I oI C oC D m₂ h tk E' hv hNs hx F N off ne) (fun _ _ hc => compEnd_mono hc fun y n' hI => restU_run n Inv fin step k (i + 1) (ys ++ [y]) n' (by omega) hI) fun _ _ e => e
theorem restV_run {elt : PySem.Expr} {x : Str} {scope : Scope} {cl : List (Str × Addr)} {ax : Addr} {its : Array Value} {Xc : Addr} {Fin : List Value → List (Addr × Obj) → Prop} (n : Nat) (Inv : Nat → List Value → List (Addr × Obj) → Prop)
    (fin : ∀ ys nw, Inv n ys nw → Fin ys nw)
    (step : ∀ i ys nw, i < n → Inv i ys nw → ∀ v I oI C oC D oX m₂ h tk (E' : Value → Shared → Prop), its[i]? = some v → NsObj oC m₂ → oX.data = .cell (some v) → Fr h₀ L h m → News h₀ L h ((I, oI) :: (C, oC) :: (D, lst ys) :: (Xc, oX) :: nw) → Off3 I C D ((Xc, oX) :: nw) →
      ((@Ne Nat I C) ∧ (@Ne Nat I D) ∧ (@Ne Nat C D)) → (∀ p ∈ nw, p.1 ≠ Xc) →
      wpAny (model PW w) A (eval elt (compEnvC scope ((x, Xc) :: cl) C env)) (CompEnd h₀ L m { s with heap := h, toks := tk } I oI C oC D (lst ys) (fun _ => True)
        (fun y news' => ∃ nw', news' = (Xc, oX) :: nw' ∧ (∀ p ∈ nw', p.1 ≠ Xc) ∧ SrcAt h₀ ax its nw' ∧ Inv (i + 1) (ys ++ [y]) nw')) E' { s with heap := h, toks := tk }) :
    ∀ k i ys nw, i + k = n → Inv i ys nw → RestV w A h₀ L m env elt x scope cl s ax its Xc Fin k i ys nw
  | 0, i, ys, nw, e, h => fin ys nw (by rw [← e]; exact h)
  | k + 1, i, ys, nw, e, hi => fun v I oI C oC D oX m₂ h tk E' hv hNs hdX F N off ne offX =>
    wpAny_mono (step i ys nw (by omega) hi v I oI C oC D oX m₂ h tk E' hv hNs hdX F N off ne offX) (fun _ _ hc => compEnd_mono hc fun y n' hI => by
      obtain ⟨nw', e1, e2, e3, e4⟩ := hI
      exact ⟨nw', e1, e2, e3, restV_run n Inv fin step k (i + 1) (ys ++ [y]) nw' (by omega) e4⟩) fun _ _ e => e
end
/-- a list of texts of the ledger -/
noncomputable def LK (nw : List (Addr × Obj)) (v : Value) (xs : List Str) : Prop := ∃ a its e, v = .ref a ∧ (a, lstO (List.toArray its) e) ∈ nw ∧ Strs its xs
theorem LK.mono {nw nw' : List (Addr × Obj)} {v : Value} {xs : List Str} (k : LK nw v xs) (hs : ∀ q ∈ nw, q ∈ nw') : LK nw' v xs := by
  obtain ⟨a, its, e, e1, e2, e3⟩ := k
  exact ⟨a, its, e, e1, hs _ e2, e3⟩
theorem lks_mono {nw nw' : List (Addr × Obj)} (hs : ∀ q ∈ nw, q ∈ nw') : ∀ {ys : List Value} {xss : List (List Str)}, All2 (LK nw) ys xss → All2 (LK nw') ys xss
  | _, _, .nil => .nil
  | _, _, .cons h t => .cons (h.mono hs) (lks_mono hs t)
theorem lks_snoc {nw : List (Addr × Obj)} {v : Value} {xs : List Str} (k : LK nw v xs) : ∀ {ys : List Value} {xss : List (List Str)}, All2 (LK nw) ys xss → All2 (LK nw) (ys ++ [v]) (xss ++ [xs])
  | _, _, .nil => .cons k .nil
  | _, _, .cons h t => .cons h (lks_snoc k t)
theorem lks_at {h₀ h : Heap} {L : Addr} {nw : List (Addr × Obj)} (N : News h₀ L h nw) : ∀ {ys : List Value} {xss : List (List Str)}, All2 (LK nw) ys xss → All2 (StrsAt h) ys xss
  | _, _, .nil => .nil
  | _, _, .cons ⟨a, its, e, e1, e2, e3⟩ t => .cons ⟨a, its, e, e1, (N _ e2).1, e3⟩ (lks_at N t)
/-- the names that law asks for -/
noncomputable def nms : List Str := [Str.ofString "a", Str.ofString "B", Str.ofString "C", Str.ofString "a-B"]
theorem nms_ok : ∀ q ∈ nms, q ∈ NM := by decide +kernel
/-- the values under a name -/
noncomputable def vals (RF : List (Str × Str)) (q : Str) : List Str := (RF.filter fun r => low r.1 == low q).map (·.2)
theorem nms_at {t1 t2 t3 t4 : Tok} {i : Nat} {v : Value} (h : (#[Value.str (Str.ofString "a") t1, Value.str (Str.ofString "B") t2, Value.str (Str.ofString "C") t3, Value.str (Str.ofString "a-B") t4] : Array Value)[i]? = some v) :
    ∃ q t, v = .str q t ∧ q ∈ NM ∧ ∀ f : Str → List Str, (nms.take (i + 1)).map f = (nms.take i).map f ++ [f q] := by
  rcases i with _ | _ | _ | _ | i
  · cases h; exact ⟨_, _, rfl, nms_ok _ (by simp [nms]), fun _ => rfl⟩
  · cases h; exact ⟨_, _, rfl, nms_ok _ (by simp [nms]), fun _ => rfl⟩
  · cases h; exact ⟨_, _, rfl, nms_ok _ (by simp [nms]), fun _ => rfl⟩
  · cases h; exact ⟨_, _, rfl, nms_ok _ (by simp [nms]), fun _ => rfl⟩
  · simp at h
theorem mem_head_of {α : Type} {a : α} {l l' : List α} (e : l' = a :: l) : a ∈ l' := by rw [e]; exact List.Mem.head _
theorem news_in3 {h₀ h : Heap} {L : Addr} {a b c x : Addr × Obj} {nw : List (Addr × Obj)} (N : News h₀ L h (a :: b :: c :: nw)) (hx : x ∈ nw) : News h₀ L h (a :: b :: c :: x :: nw) := fun p hp => by
  simp only [List.mem_cons] at hp
  rcases hp with h | h | h | h | h
  · exact N p (by simp [h])
  · exact N p (by simp [h])
  · exact N p (by simp [h])
  · exact N p (by rw [h]; simp [hx])
  · exact N p (by simp [h])
theorem news_in4 {h₀ h : Heap} {L : Addr} {a b c d x : Addr × Obj} {nw : List (Addr × Obj)} (N : News h₀ L h (a :: b :: c :: d :: nw)) (hx : x ∈ nw) : News h₀ L h (a :: b :: c :: d :: x :: nw) := fun p hp => by
  simp only [List.mem_cons] at hp
  rcases hp with h | h | h | h | h | h
  · exact N p (by simp [h])
  · exact N p (by simp [h])
  · exact N p (by simp [h])
  · exact N p (by simp [h])
  · exact N p (by rw [h]; simp [hx])
  · exact N p (by simp [h])
end
section
section
variable {w : World} {A : Around} {E : Value → Shared → Prop} {s : Shared}
theorem eqBool_refs {a : Addr} {Q : Bool → Shared → Prop} (h : Q true s) : wpAny (model PW w) A (eqBool (.ref a) (.ref a)) Q E s := by
  unfold eqBool
  try with_reducible refine wpAny_holding ?_
  show wpAny _ _ (if (Value.ref a == Value.ref a) = true then _ else _) Q E s
  rw [if_pos (by simp)]
  exact wpAny_bind (wpAny_rule (wpAny_pure h))
theorem eq_tup2_same {a b x y : Addr} {Q : Value → Shared → Prop} (ha : s.heap.get? a = some (tupO [.ref x, .ref y])) (hb : s.heap.get? b = some (tupO [.ref x, .ref y])) (hu : A.units < cLine) (h : Q (.bool true) s) :
    wpAny (model PW w) A (compareOp .Eq (.ref a) (.ref b)) Q E s := by
  show wpAny (model PW w) A (richCompare .Eq (.ref a) (.ref b)) Q E s
  refine wpAny_richCompare_same_room (op := .Eq) ⟨_, ha, rfl⟩ ⟨_, hb, rfl⟩ slot_tuple_eq (wpAny_call_entry slot_tuple_eq ⟨_, ha, rfl⟩ entry_tuple_eq ?_ (args_tuple_eq _ _)) hu
  show wpAny _ _ (isInstance (.ref b) (.type "tuple") >>= _) _ _ s
  refine wpAny_bind (wpAny_isInstance (T := "tuple") ⟨_, hb, rfl⟩ isSubtype_tuple_tuple ?_)
  simp only [Bool.not_true, Bool.false_eq_true, if_false]
  refine wpAny_bind (wpAny_tupleItemsOf ha rfl ?_)
  refine wpAny_bind (wpAny_tupleItemsOf hb rfl ?_)
  refine wpAny_bind ?_
  show wpAny _ _ (forIn [(Value.ref x, Value.ref x), (Value.ref y, Value.ref y)] _ _) _ _ _
  rw [List.forIn_cons]
  refine wpAny_bind (wpAny_bind (eqBool_refs ?_))
  simp only [Bool.not_true, Bool.false_eq_true, if_false]
  refine wpAny_pure ?_
  dsimp only
  rw [List.forIn_cons]
  refine wpAny_bind (wpAny_bind (eqBool_refs ?_))
  simp only [Bool.not_true, Bool.false_eq_true, if_false]
  refine wpAny_pure ?_
  dsimp only
  rw [List.forIn_nil]
  refine wpAny_pure ?_
  dsimp only
  exact wpAny_pure ⟨_, rfl, (fun e => nomatch e), h⟩
end
end
section
noncomputable def seqB (o : Obj) : Bool := match o.data with | .seq _ _ => true | .fields _ => true | _ => false
/-- the sequences that a list's items are -/
noncomputable def objsOf (h : Heap) (its : Array Value) : List (Addr × Obj) := its.toList.filterMap fun v => match v with
  | .ref r => (match h.get? r with | some o => if seqB o then some (r, o) else none | none => none)
  | _ => none
theorem objsOf_get {h : Heap} {its : Array Value} : ∀ q ∈ objsOf h its, h.get? q.1 = some q.2 ∧ seqB q.2 = true := by
  intro q hq
  obtain ⟨v, _, e⟩ := List.mem_filterMap.mp hq
  cases v with
  | ref r =>
    dsimp only at e
    cases hr : h.get? r with
    | none => rw [hr] at e; cases e
    | some o =>
      rw [hr] at e
      dsimp only at e
      split at e
      · rename_i hs; cases e; exact ⟨hr, hs⟩
      · cases e
  | _ => cases e
theorem objsOf_mem {h : Heap} {its : Array Value} {i : Nat} {r : Addr} {o : Obj} (hi : its[i]? = some (.ref r)) (hr : h.get? r = some o) (hs : seqB o = true) : (r, o) ∈ objsOf h its := by
  refine List.mem_filterMap.mpr ⟨.ref r, ?_, ?_⟩
  · rw [Array.mem_toList_iff]; exact Array.mem_of_getElem? hi
  · dsimp only
    rw [hr]
    dsimp only
    rw [if_pos hs]
/-- what stands in the heap can be laid into the ledger, or stands below -/
theorem kept_list {h₀ h : Heap} {L : Addr} {m : Str → Option Value} (F : Fr h₀ L h m) (xs : List (Addr × Obj)) (hx : ∀ q ∈ xs, h.get? q.1 = some q.2 ∧ seqB q.2 = true) : ∃ ext, News h₀ L h ext ∧ (∀ q ∈ ext, seqB q.2 = true) ∧ ∀ q ∈ xs, Kept h₀ ext q.1 q.2 := by
  refine ⟨xs.filter fun q => (h₀.get? q.1).isNone, fun p hp => ?_, fun q hq => (hx q (List.mem_filter.mp hq).1).2, fun q hq => ?_⟩
  · obtain ⟨h1, h2⟩ := List.mem_filter.mp hp
    refine ⟨(hx p h1).1, ns_ne F.ns (hx p h1).1 (fun es ep e => ?_), Option.isNone_iff_eq_none.mp h2⟩
    have := (hx p h1).2
    unfold seqB at this
    rw [e] at this; cases this
  · cases z : h₀.get? q.1 with
    | none => exact .inr (List.mem_filter.mpr ⟨hq, by rw [z]; rfl⟩)
    | some o => left; have := F.keep _ _ z; rw [(hx q hq).1] at this; rw [Option.some.inj this]; exact z
theorem news_two {h₀ h : Heap} {L : Addr} {nw₁ nw₂ nw : List (Addr × Obj)} (N₁ : News h₀ L h nw₁) (N₂ : News h₀ L h nw₂) (hm : ∀ q ∈ nw, q ∈ nw₁ ∨ q ∈ nw₂) : News h₀ L h nw := fun p hp => (hm p hp).elim (fun q => N₁ p q) fun q => N₂ p q
theorem list_ne3 {h : Heap} {a b : Addr} {its : Array Value} {e e' : Nat} (ha : h.get? a = some (lstO #[] e)) (hb : h.get? b = some (lstO its e')) (hs : 0 < its.size) : a ≠ b := by
  rintro rfl
  rw [ha] at hb
  have e1 : (#[] : Array Value) = its := (Data.seq.inj (congrArg Obj.data (Option.some.inj hb))).1
  rw [← e1] at hs; exact absurd hs (by decide)
theorem rows_two {h : Heap} {r₁ r₂ : Addr} {k1 v1 k2 v2 : Str} {t1 t2 t3 t4 : Tok} (h1 : h.get? r₁ = some (tupO [.str k1 t1, .str v1 t2])) (h2 : h.get? r₂ = some (tupO [.str k2 t3, .str v2 t4])) : Rows h #[.ref r₁, .ref r₂] [(k1, v1), (k2, v2)] := by
  refine ⟨rfl, fun i kv e => ?_⟩
  rcases i with _ | _ | i
  · cases e; exact ⟨r₁, t1, t2, rfl, h1⟩
  · cases e; exact ⟨r₂, t3, t4, rfl, h2⟩
  · simp at e
theorem off1_mem {D : Addr} : ∀ {l : List (Addr × Obj)}, LCg.Off1 D l → ∀ p ∈ l, p.1 ≠ D
  | [], _, _, h => nomatch h
  | _ :: _, x, p, h => by
    rcases List.mem_cons.mp h with rfl | h
    · exact x.1
    · exact off1_mem x.2 p h
theorem news_red {h₀ h h₅ : Heap} {L Dl : Addr} {oD oD' : Obj} {y1 y2 x1 x2 x4 x5 x6 x7 x8 x9 : Addr × Obj} {ext ext₁ : List (Addr × Obj)} (N : News h₀ L h (y1 :: y2 :: x1 :: x2 :: (Dl, oD) :: x4 :: x5 :: x6 :: x7 :: x8 :: x9 :: ext₁)) (u : UpBut Dl h h₅) (hl : h₅.get? Dl = some oD')
    (h1 : x1.1 ≠ Dl) (h2 : x2.1 ≠ Dl) (off : LCg.Off1 Dl (x4 :: x5 :: x6 :: x7 :: x8 :: x9 :: ext₁)) (Nx : News h₀ L h₅ ext) : News h₀ L h₅ (x1 :: x2 :: (Dl, oD') :: x4 :: x5 :: x6 :: x7 :: x8 :: x9 :: (ext ++ ext₁)) := by
  have N' := newsTail (newsTail N)
  have m := off1_mem off
  intro q hq
  rcases List.mem_cons.mp hq with rfl | hq
  · exact ⟨u _ _ h1 (N' _ (List.Mem.head _)).1, (N' _ (List.Mem.head _)).2⟩
  rcases List.mem_cons.mp hq with rfl | hq
  · exact ⟨u _ _ h2 (N' _ (List.Mem.tail _ (List.Mem.head _))).1, (N' _ (List.Mem.tail _ (List.Mem.head _))).2⟩
  have N' := newsTail (newsTail N')
  rcases List.mem_cons.mp hq with rfl | hq
  · exact ⟨hl, (N' _ (List.Mem.head _)).2⟩
  have N' := newsTail N'
  have key : ∀ q ∈ x4 :: x5 :: x6 :: x7 :: x8 :: x9 :: ext₁, h₅.get? q.1 = some q.2 ∧ q.1 ≠ L ∧ h₀.get? q.1 = none := fun q hq => ⟨u _ _ (m q hq) (N' q hq).1, (N' q hq).2⟩
  have split : q ∈ x4 :: x5 :: x6 :: x7 :: x8 :: x9 :: ext₁ ∨ q ∈ ext := by
    simp only [List.mem_cons, List.mem_append] at hq ⊢
    rcases hq with h | h | h | h | h | h | h | h <;> simp [h]
  exact split.elim (fun z => key q z) fun z => Nx q z
theorem seq_ne_cell {h : Heap} {q c : Addr} {o oc : Obj} {v : Option Value} (hq : h.get? q = some o) (hs : seqB o = true) (hc : h.get? c = some oc) (hd : oc.data = .cell v) : q ≠ c :=
  cell_ne hq hc hd fun v e => by unfold seqB at hs; rw [e] at hs; cases hs
/-- a cell of the ledger is set, at the ninth place -/
theorem news_cell9 {h₀ h h' : Heap} {L c : Addr} {oc oc' : Obj} {v : Option Value} {x0 x1 x2 x3 x4 x5 x6 x7 : Addr × Obj} {ext : List (Addr × Obj)} (N : News h₀ L h (x0 :: x1 :: x2 :: x3 :: x4 :: x5 :: x6 :: x7 :: (c, oc) :: ext)) (hd : oc.data = .cell v) (hs : Heap.SameBut c h h') (hc : h'.get? c = some oc')
    (n0 : ∀ v, x0.2.data ≠ .cell v) (n1 : ∀ v, x1.2.data ≠ .cell v) (n2 : ∀ v, x2.2.data ≠ .cell v) (n3 : ∀ v, x3.2.data ≠ .cell v) (n4 : ∀ v, x4.2.data ≠ .cell v) (n5 : ∀ v, x5.2.data ≠ .cell v) (n6 : ∀ v, x6.2.data ≠ .cell v) (n7 : x7.1 ≠ c) (ne : ∀ q ∈ ext, seqB q.2 = true) :
    News h₀ L h' (x0 :: x1 :: x2 :: x3 :: x4 :: x5 :: x6 :: x7 :: (c, oc') :: ext) := by
  have kc := N (c, oc) (by simp)
  have key : ∀ q, q ∈ x0 :: x1 :: x2 :: x3 :: x4 :: x5 :: x6 :: x7 :: (c, oc) :: ext → q.1 ≠ c → h'.get? q.1 = some q.2 ∧ q.1 ≠ L ∧ h₀.get? q.1 = none := fun q hq hn => ⟨(hs.2 _ hn).trans (N q hq).1, (N q hq).2⟩
  intro q hq
  rcases List.mem_cons.mp hq with rfl | hq
  · exact key _ (by simp) (cell_ne (N q (by simp)).1 kc.1 hd n0)
  rcases List.mem_cons.mp hq with rfl | hq
  · exact key _ (by simp) (cell_ne (N q (by simp)).1 kc.1 hd n1)
  rcases List.mem_cons.mp hq with rfl | hq
  · exact key _ (by simp) (cell_ne (N q (by simp)).1 kc.1 hd n2)
  rcases List.mem_cons.mp hq with rfl | hq
  · exact key _ (by simp) (cell_ne (N q (by simp)).1 kc.1 hd n3)
  rcases List.mem_cons.mp hq with rfl | hq
  · exact key _ (by simp) (cell_ne (N q (by simp)).1 kc.1 hd n4)
  rcases List.mem_cons.mp hq with rfl | hq
  · exact key _ (by simp) (cell_ne (N q (by simp)).1 kc.1 hd n5)
  rcases List.mem_cons.mp hq with rfl | hq
  · exact key _ (by simp) (cell_ne (N q (by simp)).1 kc.1 hd n6)
  rcases List.mem_cons.mp hq with rfl | hq
  · exact key _ (by simp) n7
  rcases List.mem_cons.mp hq with rfl | hq
  · exact ⟨hc, kc.2⟩
  · exact key _ (by simp [hq]) (seq_ne_cell (N q (by simp [hq])).1 (ne q hq) kc.1 hd)
theorem news_swap9 {h₀ h : Heap} {L : Addr} {x0 x1 x2 x3 x4 x5 x6 x7 x8 : Addr × Obj} {ext ext' : List (Addr × Obj)} (N : News h₀ L h (x0 :: x1 :: x2 :: x3 :: x4 :: x5 :: x6 :: x7 :: x8 :: ext)) (Nx : News h₀ L h ext') : News h₀ L h (x0 :: x1 :: x2 :: x3 :: x4 :: x5 :: x6 :: x8 :: x7 :: (ext' ++ ext)) :=
  news_two N Nx fun q hq => by
    simp only [List.mem_cons, List.mem_append] at hq ⊢
    rcases hq with h | h | h | h | h | h | h | h | h | h | h <;> simp [h]
theorem wlk_len {st : List (Str × Str) × List Str} {a : Act} (ha : a.ok) : (wlk st a).1.length ≤ st.1.length + 1 := by rw [← stp_wlk ha]; exact stp_len.1
theorem fold_len : ∀ {acts : List Act} {st : List (Str × Str) × List Str}, (∀ a ∈ acts, a.ok) → (acts.foldl wlk st).1.length ≤ st.1.length + acts.length
  | [], _, _ => Nat.le_refl _
  | a :: r, st, h => by
    have h1 := fold_len (acts := r) (st := wlk st a) fun b hb => h b (List.mem_cons_of_mem _ hb)
    have h2 := wlk_len (st := st) (h a (List.Mem.head _))
    rw [List.foldl_cons, List.length_cons]; omega
theorem fold_good : ∀ {acts : List Act} {st : List (Str × Str) × List Str}, (∀ a ∈ acts, a.ok) → (∀ kv ∈ st.1, kv.1 ∈ NM ∧ okS kv.2) → ∀ kv ∈ (acts.foldl wlk st).1, kv.1 ∈ NM ∧ okS kv.2
  | [], _, _, hs => hs
  | a :: r, st, h, hs => by
    rw [List.foldl_cons]
    have ha := h a (List.Mem.head _)
    exact fold_good (fun b hb => h b (List.mem_cons_of_mem _ hb)) (wlk_names ha.2.1 (by rw [← signs_sg ha.2.2.1 ha.2.2.2]; exact signs_ok _) hs)
theorem wlk_ans {st : List (Str × Str) × List Str} {a : Act} (ha : a.ok) (h : ∀ kv ∈ st.1, kv.1 ∈ NM ∧ okS kv.2) (h2 : ∀ x ∈ st.2, okS x) : ∀ x ∈ (wlk st a).2, okS x := by
  have hs : okS (sg a.mode 3) := by rw [← signs_sg ha.2.2.1 ha.2.2.2]; exact signs_ok _
  intro x hx
  have hx : x ∈ (if a.deed = "default" then st.2 ++ [((st.1.filter fun r => low r.1 == low a.nm).map (·.2) ++ [sg a.mode 3]).headD ""] else st.2) := hx
  split at hx
  · rcases List.mem_append.mp hx with q | q
    · exact h2 x q
    · rw [List.mem_singleton.mp q]
      cases hl : (st.1.filter fun r => low r.1 == low a.nm) with
      | nil => exact hs
      | cons kv r =>
        have : kv ∈ st.1.filter fun r => low r.1 == low a.nm := by rw [hl]; exact List.Mem.head _
        exact (h kv (List.mem_filter.mp this).1).2
  · exact h2 x hx
theorem fold_ans : ∀ {acts : List Act} {st : List (Str × Str) × List Str}, (∀ a ∈ acts, a.ok) → (∀ kv ∈ st.1, kv.1 ∈ NM ∧ okS kv.2) → (∀ x ∈ st.2, okS x) → ∀ x ∈ (acts.foldl wlk st).2, okS x
  | [], _, _, _, hs => hs
  | a :: r, st, h, hg, hs => by
    rw [List.foldl_cons]
    have ha := h a (List.Mem.head _)
    exact fold_ans (fun b hb => h b (List.mem_cons_of_mem _ hb)) (wlk_names ha.2.1 (by rw [← signs_sg ha.2.2.1 ha.2.2.2]; exact signs_ok _) hg) (wlk_ans ha hg hs)
/-- the rows with which the law begins -/
noncomputable def rows₀ : List (Str × Str) := [("A", "-rw-r--r--"), ("b", "-rwxr-xr-x")]
/-- the acts of a list, kept -/
noncomputable def ActsK (h₀ : Heap) (nw : List (Addr × Obj)) (its : Array Value) (acts : List Act) : Prop :=
  its.size = acts.length ∧ ∀ (i : Nat) a, acts[i]? = some a → ∃ r t1 t2 t3, its[i]? = some (Value.ref r) ∧ Kept h₀ nw r (tupO [.str a.deed t1, .str a.nm t2, .int a.mode t3])
theorem ActsK.mono {h₀ : Heap} {nw nw' : List (Addr × Obj)} {its : Array Value} {acts : List Act} (k : ActsK h₀ nw its acts) (hs : ∀ q ∈ nw, q ∈ nw') : ActsK h₀ nw' its acts :=
  ⟨k.1, fun i kv e => by obtain ⟨r, t1, t2, t3, e1, e2⟩ := k.2 i kv e; exact ⟨r, t1, t2, t3, e1, e2.mono hs⟩⟩
theorem ActsK.acts {h₀ h : Heap} {L : Addr} {m : Str → Option Value} {nw : List (Addr × Obj)} {its : Array Value} {acts : List Act} (k : ActsK h₀ nw its acts) (F : Fr h₀ L h m) (N : News h₀ L h nw) : Acts h its acts :=
  ⟨k.1, fun i kv e => by obtain ⟨r, t1, t2, t3, e1, e2⟩ := k.2 i kv e; exact ⟨r, t1, t2, t3, e1, e2.get F N⟩⟩
theorem RowsK.rows {h₀ h : Heap} {L : Addr} {m : Str → Option Value} {nw : List (Addr × Obj)} {its : Array Value} {rows : List (Str × Str)} (k : RowsK h₀ nw its rows) (F : Fr h₀ L h m) (N : News h₀ L h nw) : Rows h its rows :=
  ⟨k.1, fun i kv e => by obtain ⟨r, t1, t2, e1, e2⟩ := k.2 i kv e; exact ⟨r, t1, t2, e1, e2.get F N⟩⟩
theorem actsK_of {h₀ h : Heap} {L : Addr} {m : Str → Option Value} {its : Array Value} {acts : List Act} (F : Fr h₀ L h m) (H : Acts h its acts) : ∃ ext, News h₀ L h ext ∧ (∀ q ∈ ext, seqB q.2 = true) ∧ ActsK h₀ ext its acts := by
  obtain ⟨ext, N, hq, k⟩ := kept_list F (objsOf h its) objsOf_get
  exact ⟨ext, N, hq, H.1, fun i a e => by obtain ⟨r, t1, t2, t3, e1, e2⟩ := H.2 i a e; exact ⟨r, t1, t2, t3, e1, k _ (objsOf_mem e1 e2 rfl)⟩⟩
theorem rowsK_in {h₀ h : Heap} {L : Addr} {m : Str → Option Value} {its : Array Value} {rows : List (Str × Str)} (F : Fr h₀ L h m) (H : Rows h its rows) : ∃ ext, News h₀ L h ext ∧ (∀ q ∈ ext, seqB q.2 = true) ∧ RowsK h₀ ext its rows := by
  obtain ⟨ext, N, hq, k⟩ := kept_list F (objsOf h its) objsOf_get
  exact ⟨ext, N, hq, H.1, fun i a e => by obtain ⟨r, t1, t2, e1, e2⟩ := H.2 i a e; exact ⟨r, t1, t2, e1, k _ (objsOf_mem e1 e2 rfl)⟩⟩
theorem news_drop {h₀ h h' : Heap} {L l : Addr} {m : Str → Option Value} {nw nw' nk : List (Addr × Obj)} (F : Fr h₀ L h m) (N : News h₀ L h nw) (u : UpBut l h h') (fr : ∀ q ∈ nk, h'.get? q.1 = some q.2 ∧ h.get? q.1 = none) (hs : ∀ q ∈ nw', q ∈ nk ∨ (q ∈ nw ∧ q.1 ≠ l) ∨ (h'.get? q.1 = some q.2 ∧ q.1 ≠ L ∧ h₀.get? q.1 = none)) : News h₀ L h' nw' := fun q hq => by
  rcases hs q hq with hq | ⟨hq, hn⟩ | hq
  · refine ⟨(fr q hq).1, fun e => ?_, ?_⟩
    · obtain ⟨o, es, ep, e₁, r⟩ := F.ns
      have := (fr q hq).2
      rw [e, e₁] at this; cases this
    · cases z : h₀.get? q.1 with
      | none => rfl
      | some o => have := (fr q hq).2; rw [F.keep _ _ z] at this; cases this
  · exact ⟨u _ _ hn (N q hq).1, (N q hq).2⟩
  · exact hq
theorem strs_len {vs : List Value} {xs : List Str} (h : Strs vs xs) : vs.length = xs.length := by
  have := congrArg List.length h
  simpa using this
theorem fold_alen : ∀ {acts : List Act} {st : List (Str × Str) × List Str}, (acts.foldl wlk st).2.length ≤ st.2.length + acts.length
  | [], _ => Nat.le_refl _
  | a :: r, st => by
    have h1 := fold_alen (acts := r) (st := wlk st a)
    have h2 : (wlk st a).2.length ≤ st.2.length + 1 := by
      show (if a.deed = "default" then st.2 ++ [((st.1.filter fun r => low r.1 == low a.nm).map (·.2) ++ [sg a.mode 3]).headD ""] else st.2).length ≤ _
      split
      · rw [List.length_append]; exact Nat.le_refl _
      · exact Nat.le_succ _
    rw [List.foldl_cons, List.length_cons]; omega
section
variable {w : World} {p : Program} {loose : List Str} {mg mb : Str → Option Value}
theorem kw25 : True := by
  (k_with "eval ListComp" => refine hold ?_)
  trivial
theorem kw26 : True := by
  (k_with "CompSrc" => refine hold ?_)
  trivial
theorem kw27 : True := by
  (k_with "compareOp NotEq ref ref" => refine hold ?_)
  trivial
theorem mem_rot {a b c d : Addr × Obj} {l : List (Addr × Obj)} {p : Addr × Obj} (hp : p ∈ b :: c :: d :: a :: l) : p ∈ a :: b :: c :: d :: l := by
  simp only [List.mem_cons] at hp ⊢
  rcases hp with h | h | h | h | h <;> simp [h]
theorem ne_of_none {h : Heap} {a b : Addr} {o : Obj} (n : h.get? a = none) (e : h.get? b = some o) (q : a = b) : False := by rw [q, e] at n; cases n
theorem mem_rot5 {a b c d e : Addr × Obj} {l : List (Addr × Obj)} {p : Addr × Obj} (hp : p ∈ b :: c :: d :: e :: a :: l) : p ∈ a :: b :: c :: d :: e :: l := by
  simp only [List.mem_cons] at hp ⊢
  rcases hp with h | h | h | h | h | h <;> simp [h]
theorem hi33 : hiA 33 := by intro P; kernel_rfl
theorem hi282 : hiA 282 := by intro P; kernel_rfl
theorem kw28 : True := by
  (k_with "call builtin:sorted" => refine hold ?_)
  trivial
theorem kw29 : True := by
  (k_with "eval Lambda" => refine hold ?_)
  trivial
theorem law_c {A : Around} {Q E : Value → Shared → Prop} {s : Shared} {sc : Addr} {vs : List Value} {ns : List Int} (TW : Tops w p loose mg mb) (KX : (KK w.params).In s.heap) (K33 : s.heap.get? 33 = some (tableObj #[])) (K282 : s.heap.get? 282 = some (tableObj #[])) (RA : Room 8 A)
    (hl : s.heap.IsList sc vs.toArray) (hi : IntsAre vs ns) (hz : ns.length ≤ 63)
    (hQ : ∀ h' tk' ps ps', (∀ b o, b ≠ 33 → b ≠ 282 → s.heap.get? b = some o → h'.get? b = some o) → h'.get? 33 = some (tabObj ps) → h'.get? 282 = some (tabObj ps') → Q (.bool true) { s with heap := h', toks := tk' }) :
    wpAny (model PW w) A (call (.ref 285) [.ref sc]) Q E s := by
  have hide2 : ∀ p ∈ [((33 : Addr), tableObj #[]), (282, tableObj #[])], s.heap.get? p.1 = some p.2 ∧ hiA p.1 := by
    intro p hp
    simp only [List.mem_cons, List.not_mem_nil, or_false] at hp
    rcases hp with rfl | rfl
    · exact ⟨K33, hi33⟩
    · exact ⟨K282, hi282⟩
  refine enterCc (n := 7) [(33, tableObj #[]), (282, tableObj #[])] TW KX hide2 RA (by k_is) (by k_is) (kp_binds KX (fun _ => rfl)) rfl (by decide +kernel) ?_
  intro h₀ L h₁ tk₁ cells F N Y X T₀ hup hdn hlt R₁
  k_cells Y
  (try simp only [List.cons_append, List.nil_append] at N)
  obtain ⟨osc, hl, hcl, hnl⟩ := hl
  have hsc : ∀ p ∈ [((33 : Addr), tableObj #[]), (282, tableObj #[])], sc ≠ p.1 := by
    intro p hp q
    rw [q] at hl
    rw [(hide2 p hp).1] at hl
    simp only [List.mem_cons, List.not_mem_nil, or_false] at hp
    rcases hp with rfl | rfl <;> (cases hl; cases hcl)
  have lS : h₀.IsList sc vs.toArray := ⟨_, hup sc _ hsc hl, hcl, hnl⟩
  (try dsimp only)
  k_steps
  (rename Fr _ _ _ _ => F)
  (rename News _ _ _ _ => N)
  (rename IntsAre _ ([4, 15, 2] ++ _) => hI)
  have hacts : ([4, 15, 2] ++ List.take 7 ns).length ≤ 10 := by rw [List.length_append, List.length_take]; simp; omega
  obtain ⟨acts, hacts'⟩ : ∃ acts, acts = ([4, 15, 2] ++ List.take 7 ns).map actOf := ⟨_, rfl⟩
  have hok : ∀ a ∈ acts, a.ok := by
    intro a ha
    rw [hacts'] at ha
    obtain ⟨x, _, rfl⟩ := List.mem_map.mp ha
    exact actOf_ok x
  have hal : acts.length ≤ 10 := by rw [hacts', List.length_map]; exact hacts
  refine acts_c TW (Frag.In.keeps X F.keep) (R₁.less (by decide)) (N _ (List.Mem.head _)).1 hI (by omega) ?_
  intro Dd dys de h₂ tk₂ up₂ new₂ get₂ hA₂
  rw [← hacts'] at hA₂
  have N := newsTail (newsTail (newsTail (N.grown up₂)))
  have N := news_add F N get₂ new₂
  have F := F.keeps up₂
  obtain ⟨ext₀, Nx₀, sq₀, kA₀⟩ := actsK_of F hA₂
  obtain ⟨ext₁, hx₁⟩ : ∃ e, e = (33, tableObj #[]) :: (282, tableObj #[]) :: ext₀ := ⟨_, rfl⟩
  have Nx : News h₀ L _ ext₁ := fun q hq => by
    rw [hx₁] at hq
    rcases List.mem_cons.mp hq with rfl | hq
    · exact N _ (by simp)
    rcases List.mem_cons.mp hq with rfl | hq
    · exact N _ (by simp)
    · exact Nx₀ q hq
  have t33 : ((33 : Addr), tableObj #[]) ∈ ext₁ := by rw [hx₁]; exact List.Mem.head _
  have t282 : ((282 : Addr), tableObj #[]) ∈ ext₁ := by rw [hx₁]; exact List.Mem.tail _ (List.Mem.head _)
  have sq₁ : ∀ q ∈ ext₁, seqB q.2 = true := fun q hq => by
    rw [hx₁] at hq
    rcases List.mem_cons.mp hq with rfl | hq
    · rfl
    rcases List.mem_cons.mp hq with rfl | hq
    · rfl
    · exact sq₀ q hq
  have kA := kA₀.mono (nw' := ext₁) (fun q hq => by rw [hx₁]; exact List.mem_cons_of_mem _ (List.mem_cons_of_mem _ hq))
  clear hx₁ Nx₀ sq₀ kA₀
  have N := news_two (nw := _ :: _ :: _ :: ext₁) N Nx (by
    intro q hq
    rcases List.mem_cons.mp hq with q' | hq
    · exact .inl (q' ▸ List.Mem.head _)
    · rcases List.mem_cons.mp hq with q' | hq
      · exact .inl (q' ▸ List.Mem.tail _ (List.Mem.head _))
      · rcases List.mem_cons.mp hq with q' | hq
        · exact .inl (q' ▸ List.Mem.tail _ (List.Mem.tail _ (List.Mem.head _)))
        · exact .inr hq)
  clear Nx hA₂
  (try dsimp only)
  k_steps
  unfold Hold
  (rename Fr _ _ _ _ => F)
  (rename News _ _ _ _ => N)
  refine LCg.ListComp_U F rfl (by decide) rfl (by decide) rfl ?_
  k_steps
  unfold Hold
  refine LCg.CompSrc.ledger rfl F N (List.Mem.head _) (by rw [sizeLine_eq]; exact (show 2 ≤ 16777216 by decide)) ?_
  intro g
  refine LCg.CompRest.succ ?_
  intro v I oI C oC D m₂ h tk E' hv hNs hx F N off ne
  cases hv
  (try dsimp only)
  k_steps
  refine LCg.CompEnd.intro F N _ (fun p hp => hp) off (.inr ⟨_, List.Mem.head _, rfl, _, rfl⟩) ?_
  refine LCg.CompRest.succ ?_
  intro v I oI C oC D m₂ h tk E' hv hNs hx F N off ne
  cases hv
  (try dsimp only)
  k_steps
  refine LCg.CompEnd.intro F N _ (fun p hp => hp) off (.inr ⟨_, List.Mem.head _, rfl, _, rfl⟩) ?_
  refine LCg.CompRest.zero ?_
  intro Dl h tk F N offl
  replace F : Fr h₀ L h _ := F
  replace N : News h₀ L h _ := N
  (try dsimp only)
  k_steps
  refine headers_c TW X F N (R₁.less (by decide)) (List.Mem.head _) (List.Mem.tail _ (List.Mem.tail _ (List.Mem.tail _ (List.Mem.head _)))) (List.Mem.tail _ (List.Mem.tail _ (List.Mem.head _))) ?_
  intro H d hh kt nd h₃ tk₃ F N
  (try dsimp only)
  k_steps
  (rename Fr _ _ _ _ => F)
  (rename News _ _ _ _ => N)
  have nDl := N _ (List.Mem.tail _ (List.Mem.tail _ (List.Mem.tail _ (List.Mem.tail _ (List.Mem.head _)))))
  have nHn := N _ (List.Mem.tail _ (List.Mem.tail _ (List.Mem.head _)))
  have nDn := N _ (List.Mem.tail _ (List.Mem.tail _ (List.Mem.tail _ (List.Mem.head _))))
  have nAn := N _ (List.Mem.tail _ (List.Mem.head _))
  have nT2 := N _ (List.Mem.tail _ (List.Mem.tail _ (List.Mem.tail _ (List.Mem.tail _ (List.Mem.tail _ (List.Mem.tail _ (List.Mem.head _)))))))
  have nT1 := N _ (List.Mem.tail _ (List.Mem.tail _ (List.Mem.tail _ (List.Mem.tail _ (List.Mem.tail _ (List.Mem.tail _ (List.Mem.tail _ (List.Mem.head _))))))))
  have nDd := N _ (List.Mem.tail _ (List.Mem.tail _ (List.Mem.tail _ (List.Mem.tail _ (List.Mem.tail _ (List.Mem.tail _ (List.Mem.tail _ (List.Mem.tail _ (List.Mem.head _)))))))))
  have Next₁ : News h₀ L _ ext₁ := newsTail (newsTail (newsTail (newsTail (newsTail (newsTail (newsTail (newsTail (newsTail (newsTail (newsTail N))))))))))
  have hDlIts : 0 < (2 : Nat) := by decide
  refine reduce_c (its := #[.ref _, .ref _]) (rows := rows₀) (avs := []) (ans := []) (acts := acts) TW (Frag.In.keeps X F.keep) (R₁.less (by decide)) ⟨(N _ (List.Mem.head _)).1, ⟨nHn.1, nDn.1, nDl.1, hi_new X nHn.2.2, hi_new X nDn.2.2, hi_new X nDl.2.2⟩, rows_two nT1.1 nT2.1, nAn.1, rfl, list_ne3 nAn.1 nDl.1 hDlIts⟩ hok nDd.1 offl.2.2.2.1 (kA.acts F Next₁) (by decide +kernel) (by have : (#[Value.none, Value.none] : Array Value).size = 2 := rfl; simp; omega) (by simp; omega) ?_
  intro S₅ An₅ its₅ e₅ avs₅ ea₅ h₅ tk₅ u₅ D₅ hS₅
  have nSt := N _ (List.Mem.head _)
  have nBg := N _ (List.Mem.tail _ (List.Mem.tail _ (List.Mem.tail _ (List.Mem.tail _ (List.Mem.tail _ (List.Mem.head _))))))
  have nC2 := N _ (List.Mem.tail _ (List.Mem.tail _ (List.Mem.tail _ (List.Mem.tail _ (List.Mem.tail _ (List.Mem.tail _ (List.Mem.tail _ (List.Mem.tail _ (List.Mem.tail _ (List.Mem.head _))))))))))
  have nC1 := N _ (List.Mem.tail _ (List.Mem.tail _ (List.Mem.tail _ (List.Mem.tail _ (List.Mem.tail _ (List.Mem.tail _ (List.Mem.tail _ (List.Mem.tail _ (List.Mem.tail _ (List.Mem.tail _ (List.Mem.head _)))))))))))
  have F₅ := fr_upbut F u₅ nDl.2.2 nDl.2.1
  have hk₅ : ∀ q ∈ ext₁, q.1 ≠ Dl := off1_mem offl.2.2.2.2.2.2
  obtain ⟨ext₂, Nx₂, sq₂, kRw₅⟩ := rowsK_in F₅ D₅.rws
  obtain ⟨ext₃, Nx₃, sq₃, kAn₅⟩ := kept_list F₅ [(An₅, lstO avs₅.toArray ea₅)] (by intro q hq; rw [List.mem_singleton.mp hq]; exact ⟨D₅.lst, rfl⟩)
  have kAn₅ := kAn₅ _ (List.Mem.head _)
  have N₅ := news_red N u₅ D₅.head.list (get_ne nHn.1 nDl.1 (by simp)) (get_ne nDn.1 nDl.1 (by simp)) offl (news_two (nw := ext₃ ++ ext₂) Nx₃ Nx₂ fun q hq => List.mem_append.mp hq)
  clear N
  refine assign_Tuple_tuple R₁.handled (isTup_of D₅.tup) rfl rfl fun h₆ he => ?_
  have he' : ∀ b o, h₅.get? b = some o → h₆.get? b = some o := fun b o e => he b o (Nat.ne_of_lt (Heap.lt_size e)) e
  have F := F₅.keeps he'
  have N := N₅.grown he'
  have kC := N _ (List.Mem.tail _ (List.Mem.tail _ (List.Mem.tail _ (List.Mem.tail _ (List.Mem.tail _ (List.Mem.tail _ (List.Mem.tail _ (List.Mem.tail _ (List.Mem.head _)))))))))
  obtain ⟨ext₄, hx₄⟩ : ∃ ext₄, ext₄ = (ext₃ ++ ext₂) ++ ext₁ := ⟨_, rfl⟩
  have sq₄ : ∀ q ∈ ext₄, seqB q.2 = true := by
    intro q hq
    rw [hx₄] at hq
    rcases List.mem_append.mp hq with hq | hq
    · rcases List.mem_append.mp hq with hq | hq
      · exact sq₃ q hq
      · exact sq₂ q hq
    · exact sq₁ q hq
  rw [← hx₄] at N
  refine assignInOrder_cons (wpAny_assign_Name (wpAny_storeName_cell (c := L + 1) rfl rfl rfl ⟨_, kC.1, by assumption⟩ fun h₇ hc₇ hs₇ => ?_))
  obtain ⟨om, gm, dm⟩ := hc₇
  have N := news_cell9 N (by assumption) hs₇ gm (by intro _ q; cases q) (by intro _ q; cases q) (by intro _ q; cases q) (by intro _ q; cases q) (by intro _ q; cases q) (by intro _ q; cases q) (by intro _ q; cases q) (Nat.succ_ne_self (L + 1)) sq₄
  have F := F.change hs₇ (Nat.succ_ne_self L) kC.2.2
  refine assignInOrder_cons (wpAny_assign_Name (wpAny_storeName_local (m := _) rfl F.ns fun h₈ hn₈ hs₈ => ?_))
  have N : News h₀ L h₈ _ := fun p hp => ⟨(hs₈.2 _ (N p hp).2.1).trans (N p hp).1, (N p hp).2⟩
  have F := F.set hn₈ hs₈
  refine assignInOrder_nil ?_
  replace F : Fr h₀ L h₈ _ := F
  replace N : News h₀ L h₈ _ := N
  (try dsimp only)
  k_steps
  have Nx₄ : News h₀ L h₈ ext₄ := newsTail (newsTail (newsTail (newsTail (newsTail (newsTail (newsTail (newsTail (newsTail N))))))))
  have kA₄ : ActsK h₀ ext₄ dys acts := kA.mono fun q hq => by rw [hx₄]; exact List.mem_append_right _ hq
  refine walked_c (its := #[.ref _, .ref _]) (rows := rows₀) (acts := acts) TW (Frag.In.keeps X F.keep) (R₁.less (by decide)) (N _ (List.Mem.tail _ (List.Mem.tail _ (List.Mem.tail _ (List.Mem.head _))))).1 (rows_two (N _ (List.Mem.tail _ (List.Mem.tail _ (List.Mem.tail _ (List.Mem.tail _ (List.Mem.tail _ (List.Mem.head _))))))).1 (N _ (List.Mem.tail _ (List.Mem.tail _ (List.Mem.tail _ (List.Mem.tail _ (List.Mem.head _)))))).1) hok (N _ (List.Mem.tail _ (List.Mem.tail _ (List.Mem.tail _ (List.Mem.tail _ (List.Mem.tail _ (List.Mem.tail _ (List.Mem.head _)))))))).1 (kA₄.acts F Nx₄) ?_ (by show 2 + acts.length ≤ 800; omega) ?_
  · intro kv hkv
    simp only [rows₀, List.mem_cons, List.not_mem_nil, or_false] at hkv
    rcases hkv with rfl | rfl
    · exact ⟨by decide +kernel, by decide +kernel, by decide +kernel⟩
    · exact ⟨by decide +kernel, by decide +kernel, by decide +kernel⟩
  intro S₆ Rd An₆ its₆ e₆ avs₆ ea₆ h₉ tk₉ up₉ gS₆ gR₆ hRw₆ gA₆ hst₆
  have F := F.keeps up₉
  have N := N.grown up₉
  obtain ⟨ext₅, Nx₅, sq₅, kk₅⟩ := kept_list F ((Rd, lstO its₆ e₆) :: (An₆, lstO avs₆ ea₆) :: objsOf h₉ its₆) (by
    intro q hq
    rcases List.mem_cons.mp hq with rfl | hq
    · exact ⟨gR₆, rfl⟩
    · rcases List.mem_cons.mp hq with rfl | hq
      · exact ⟨gA₆, rfl⟩
      · exact objsOf_get q hq)
  have kRd := kk₅ _ (List.Mem.head _)
  have kAn₆ := kk₅ _ (List.Mem.tail _ (List.Mem.head _))
  have kRw₆ : RowsK h₀ ext₅ its₆ (acts.foldl wlk (rows₀, [])).1 := ⟨hRw₆.1, fun i a e => by obtain ⟨r, t1, t2, q1, q2⟩ := hRw₆.2 i a e; exact ⟨r, t1, t2, q1, kk₅ _ (List.mem_cons_of_mem _ (List.mem_cons_of_mem _ (objsOf_mem q1 q2 rfl)))⟩⟩
  have N := news_swap9 N Nx₅
  have sq₆ : ∀ q ∈ ext₅ ++ ext₄, seqB q.2 = true := fun q hq => (List.mem_append.mp hq).elim (sq₅ q) (sq₄ q)
  obtain ⟨ext₆, hx₆⟩ : ∃ ext₆, ext₆ = ext₅ ++ ext₄ := ⟨_, rfl⟩
  rw [← hx₆] at N sq₆
  refine assign_Tuple_tuple R₁.handled (isTup_of gS₆) rfl rfl fun h₁₀ he₁₀ => ?_
  have he₁₀' : ∀ b o, h₉.get? b = some o → h₁₀.get? b = some o := fun b o e => he₁₀ b o (Nat.ne_of_lt (Heap.lt_size e)) e
  have F := F.keeps he₁₀'
  have N := N.grown he₁₀'
  have kC₂ := N _ (List.Mem.tail _ (List.Mem.tail _ (List.Mem.tail _ (List.Mem.tail _ (List.Mem.tail _ (List.Mem.tail _ (List.Mem.tail _ (List.Mem.tail _ (List.Mem.head _)))))))))
  refine assignInOrder_cons (wpAny_assign_Name (wpAny_storeName_cell (c := L + 1 + 1) rfl rfl rfl ⟨_, kC₂.1, by assumption⟩ fun h₁₁ hc₁₁ hs₁₁ => ?_))
  obtain ⟨odu, gdu, ddu⟩ := hc₁₁
  have N := news_cell9 N (by assumption) hs₁₁ gdu (by intro _ q; cases q) (by intro _ q; cases q) (by intro _ q; cases q) (by intro _ q; cases q) (by intro _ q; cases q) (by intro _ q; cases q) (by intro _ q; cases q) (Ne.symm (Nat.succ_ne_self (L + 1))) sq₆
  have F := F.change hs₁₁ kC₂.2.1 kC₂.2.2
  refine assignInOrder_cons (wpAny_assign_Name (wpAny_storeName_local (m := _) rfl F.ns fun h₁₂ hn₁₂ hs₁₂ => ?_))
  have N : News h₀ L h₁₂ _ := fun p hp => ⟨(hs₁₂.2 _ (N p hp).2.1).trans (N p hp).1, (N p hp).2⟩
  have F := F.set hn₁₂ hs₁₂
  refine assignInOrder_nil ?_
  replace F : Fr h₀ L h₁₂ _ := F
  replace N : News h₀ L h₁₂ _ := N
  (try dsimp only)
  k_steps
  have hD₅h := D₅.rws.1
  have hst₅ := D₅.txt
  have hsame := fold_same (st := (rows₀, [])) hok
  rw [hsame] at hD₅h hst₅ kRw₅
  have hd : HeadAt h₁₂ H d Dl hh kt nd e₅ its₅ := ⟨(N _ (List.Mem.head _)).1, (N _ (List.Mem.tail _ (List.Mem.head _))).1, (N _ (List.Mem.tail _ (List.Mem.tail _ (List.Mem.head _)))).1, D₅.head.hi⟩
  refine items_c TW (Frag.In.keeps X F.keep) (R₁.less (by decide)) hd (by have h1 := fold_len (st := (rows₀, [])) hok; have h2 : rows₀.length = 2 := rfl; dsimp only at h1; omega) ?_
  intro Di ei h₁₃ tk₁₃ up₁₃ new₁₃ get₁₃
  have N := news_add F (N.grown up₁₃) get₁₃ new₁₃
  have F := F.keeps up₁₃
  (try dsimp only)
  k_steps
  unfold Hold
  have Nt := newsTail (newsTail (newsTail (newsTail (newsTail (newsTail (newsTail (newsTail (newsTail (newsTail N)))))))))
  have hsz₅ : its₅.size ≤ 1000 := by have h1 := fold_len (st := (rows₀, [])) hok; have h2 : rows₀.length = 2 := rfl; dsimp only at h1; omega
  have good := fold_good (acts := acts) (st := (rows₀, [])) hok (by
    intro kv hkv
    simp only [rows₀, List.mem_cons, List.not_mem_nil, or_false] at hkv
    rcases hkv with rfl | rfl
    · exact ⟨by decide +kernel, by decide +kernel, by decide +kernel⟩
    · exact ⟨by decide +kernel, by decide +kernel, by decide +kernel⟩)
  have m₄ : ∀ q ∈ ext₄, q ∈ ext₆ := fun q hq => by rw [hx₆]; exact List.mem_append_right _ hq
  have m₅ : ∀ q ∈ ext₅, q ∈ ext₆ := fun q hq => by rw [hx₆]; exact List.mem_append_left _ hq
  have m₂ : ∀ q ∈ ext₂, q ∈ ext₆ := fun q hq => m₄ q (by rw [hx₄]; exact List.mem_append_left _ (List.mem_append_right _ hq))
  have m₃ : ∀ q ∈ ext₃, q ∈ ext₆ := fun q hq => m₄ q (by rw [hx₄]; exact List.mem_append_left _ (List.mem_append_left _ hq))
  have kRw₅ := kRw₅.mono m₂
  have kRw₆ := kRw₆.mono m₅
  have kRd := kRd.mono m₅
  have kAn₆ := kAn₆.mono m₅
  have kAn₅ := kAn₅.mono m₃
  refine ne_rows_c (N _ (List.Mem.head _)).1 (kRw₅.rows F Nt) (fun kv hkv => ⟨ok_names _ (good kv hkv).1, (good kv hkv).2⟩) (kRd.get F Nt) (kRw₆.rows F Nt) (by units_room) ?_
  clear Nt
  (try dsimp only)
  k_steps
  unfold Hold
  have gans := fold_ans (acts := acts) (st := (rows₀, [])) hok (by
    intro kv hkv
    simp only [rows₀, List.mem_cons, List.not_mem_nil, or_false] at hkv
    rcases hkv with rfl | rfl
    · exact ⟨by decide +kernel, by decide +kernel, by decide +kernel⟩
    · exact ⟨by decide +kernel, by decide +kernel, by decide +kernel⟩) (by intro x hx; cases hx)
  have Nt := newsTail (newsTail (newsTail (newsTail (newsTail (newsTail (newsTail (newsTail (newsTail (newsTail N)))))))))
  refine ne_strs_c (vs := avs₅) (ws := avs₆.toList) (kAn₅.get F Nt) hst₅ gans (by rw [Array.toArray_toList]; exact kAn₆.get F Nt) hst₆ (by units_room) ?_
  clear Nt
  (try dsimp only)
  k_steps
  unfold Hold
  (rename Fr _ _ _ _ => F)
  (rename News _ _ _ _ => N)
  obtain ⟨RF, hRF⟩ : ∃ RF, RF = (List.foldl wlk (rows₀, []) acts).fst := ⟨_, rfl⟩
  rw [← hRF] at kRw₆ kRw₅ good
  have hsz₆ : its₆.size ≤ 1000 := by
    have h1 := kRw₆.1
    have h2 := kRw₅.1
    omega
  obtain ⟨B, N, hB⟩ : ∃ B, News h₀ L _ B ∧ B = _ := ⟨_, N, rfl⟩
  have mN := mem_head_of hB
  have mH : (H, instObj 238 d) ∈ B := by rw [hB]; exact (List.Mem.tail _ (List.Mem.tail _ (List.Mem.head _)))
  have md : (d, dictOf [⟨hh, .str (Str.ofString "_headers") kt, .ref Dl⟩] nd) ∈ B := by rw [hB]; exact (List.Mem.tail _ (List.Mem.tail _ (List.Mem.tail _ (List.Mem.head _))))
  have mD : (Dl, lstO its₅ e₅) ∈ B := by rw [hB]; exact (List.Mem.tail _ (List.Mem.tail _ (List.Mem.tail _ (List.Mem.tail _ (List.Mem.head _)))))
  have mM : (L + 1, om) ∈ B := by rw [hB]; exact (List.Mem.tail _ (List.Mem.tail _ (List.Mem.tail _ (List.Mem.tail _ (List.Mem.tail _ (List.Mem.tail _ (List.Mem.tail _ (List.Mem.tail _ (List.Mem.tail _ (List.Mem.head _))))))))))
  have mU : (L + 1 + 1, odu) ∈ B := by rw [hB]; exact (List.Mem.tail _ (List.Mem.tail _ (List.Mem.tail _ (List.Mem.tail _ (List.Mem.tail _ (List.Mem.tail _ (List.Mem.tail _ (List.Mem.tail _ (List.Mem.tail _ (List.Mem.tail _ (List.Mem.head _)))))))))))
  have m₆ : ∀ q ∈ ext₆, q ∈ B := fun q hq => by rw [hB]; exact (List.mem_cons_of_mem _ (List.mem_cons_of_mem _ (List.mem_cons_of_mem _ (List.mem_cons_of_mem _ (List.mem_cons_of_mem _ (List.mem_cons_of_mem _ (List.mem_cons_of_mem _ (List.mem_cons_of_mem _ (List.mem_cons_of_mem _ (List.mem_cons_of_mem _ (List.mem_cons_of_mem _ hq)))))))))))
  clear hB
  refine LCg.ListComp_U F rfl (by decide) rfl (by decide) rfl ?_
  k_steps
  unfold Hold
  refine LCg.CompSrc.ledger rfl F N mN (by rw [sizeLine_eq]; exact (show 4 ≤ 16777216 by decide)) ?_
  intro g
  refine restU_run 4 (fun i ys nw => (∀ q ∈ B, q ∈ nw) ∧ All2 (LK nw) ys ((nms.take i).map (vals RF))) ?_ ?_ 4 0 [] B rfl ⟨fun _ h => h, .nil⟩
  rotate_left
  · rintro i ys nw hi ⟨hsub, hall⟩ v I oI C oC D m₂ h tk E' hv hNs hx F N off ne
    obtain ⟨q, t, rfl, hqN, hqt⟩ := nms_at hv
    have N := news_in3 (news_in3 (news_in3 N (hsub _ md)) (List.mem_cons_of_mem _ (hsub _ mH))) (List.mem_cons_of_mem _ (List.mem_cons_of_mem _ (hsub _ mM)))
    replace F : Fr h₀ L h _ := F
    replace N : News h₀ L h _ := N
    (try dsimp only)
    k_steps
    have Nb : News h₀ L _ nw := newsTail (newsTail (newsTail (newsTail (newsTail (newsTail N)))))
    have Nb6 : News h₀ L _ ext₆ := fun p hp => Nb p (hsub _ (m₆ p hp))
    refine getall_c TW (Frag.In.keeps X F.keep) (R₁.less (by decide)) ⟨(Nb _ (hsub _ mH)).1, (Nb _ (hsub _ md)).1, (Nb _ (hsub _ mD)).1, D₅.head.hi⟩ hqN (kRw₅.rows F Nb6) (fun kv hkv => (good kv hkv).1) hsz₅ ?_
    clear Nb Nb6
    intro G gs ge h' tk' up' new' get' sg
    have nI := fun (e : G = I) => ne_of_none new' (N _ (List.Mem.head _)).1 e
    have nC := fun (e : G = C) => ne_of_none new' (N _ (List.Mem.tail _ (List.Mem.head _))).1 e
    have nD := fun (e : G = D) => ne_of_none new' (N _ (List.Mem.tail _ (List.Mem.tail _ (List.Mem.head _)))).1 e
    have N := news_add F (N.grown up') get' new'
    have F := F.keeps up'
    (try dsimp only)
    have hs' : ∀ p ∈ nw, p ∈ (G, lstO gs.toArray ge) :: nw := fun p hp => List.mem_cons_of_mem _ hp
    refine LCg.CompEnd.intro F N ((G, lstO gs.toArray ge) :: nw) (fun p hp => ?_) ⟨⟨nI, nC, nD⟩, off⟩ (.inr ⟨_, hs' _ (hsub _ mN), rfl, _, rfl⟩) ⟨fun p hp => hs' _ (hsub p hp), ?_⟩
    · simp only [List.mem_cons] at hp ⊢
      rcases hp with h | h | h | h | h <;> simp [h]
    · rw [hqt]; exact lks_snoc ⟨G, gs, ge, rfl, List.Mem.head _, sg⟩ (lks_mono hs' hall)
  rintro ys₁ nw₁ ⟨hsub₁, hall₁⟩
  intro Gl h tk F N offl
  replace F : Fr h₀ L h _ := F
  obtain ⟨B₂, N, hB₂⟩ : ∃ B₂, News h₀ L h B₂ ∧ B₂ = (Gl, LCg.lst ys₁) :: nw₁ := ⟨_, N, rfl⟩
  have mGl := mem_head_of hB₂
  have sB₁ : ∀ q ∈ nw₁, q ∈ B₂ := fun q hq => by rw [hB₂]; exact List.mem_cons_of_mem _ hq
  have hall₁ := lks_mono sB₁ hall₁
  have sB : ∀ q ∈ B, q ∈ B₂ := fun q hq => sB₁ q (hsub₁ q hq)
  clear hB₂ offl hsub₁ sB₁
  (try dsimp only)
  k_steps
  unfold Hold
  refine ListComp_V F rfl (by with_unfolding_all rfl) rfl rfl rfl (by decide) ?_
  k_steps
  refine ⟨_, _, _, rfl, F, N, .inr ⟨_, sB _ mN, rfl, _, rfl⟩, (by rw [sizeLine_eq]; exact (show 4 ≤ 16777216 by decide)), fun g Xc => ?_⟩
  refine restV_run 4 (fun i ys nw => (∀ q ∈ B₂, q ∈ nw) ∧ All2 (LK nw) ys ((nms.take i).map (vals RF))) ?_ ?_ 4 0 [] B₂ rfl ⟨fun _ h => h, .nil⟩
  rotate_left
  · rintro i ys nw hi ⟨hsub, hall⟩ v I oI C oC D oX m₂ h tk E' hv hNs hdX F N off ne offX
    obtain ⟨q, t, rfl, hqN, hqt⟩ := nms_at hv
    have N := news_in4 N (hsub _ (sB _ mU))
    replace F : Fr h₀ L h _ := F
    replace N : News h₀ L h _ := N
    (try dsimp only)
    refine ListComp_Q F rfl (by with_unfolding_all rfl) (by decide) rfl (by decide) rfl rfl (by decide) ?_
    k_steps
    refine ⟨Rd, its₆, _, rfl, F, N, (kRd.mono (fun p hp => (List.mem_cons_of_mem _ (List.mem_cons_of_mem _ (List.mem_cons_of_mem _ (List.mem_cons_of_mem _ (List.mem_cons_of_mem _ (hsub _ (sB _ (m₆ p hp)))))))))).src, hsz₆, (fun j zs nw' => nw' = _ ∧ Strs zs (((RF.take j).filter fun r => low r.1 == low q).map (·.2))), ⟨rfl, rfl⟩, ?_⟩
    rintro s₂ ⟨g', rfl⟩
    refine ⟨?_, ?_⟩
    · rintro j v zs nw' hv ⟨rfl, hinv⟩ hS
      have hj : j < RF.length := by
        have := (Array.getElem?_eq_some_iff.mp hv).1
        rw [kRw₆.1] at this; exact this
      obtain ⟨r₂, u1, u2, f1, f2⟩ := kRw₆.2 j RF[j] (List.getElem?_eq_getElem hj)
      rw [f1] at hv
      cases hv
      refine ⟨r₂, _, _, rfl, f2.mono (fun p hp => (List.mem_cons_of_mem _ (List.mem_cons_of_mem _ (List.mem_cons_of_mem _ (List.mem_cons_of_mem _ (List.mem_cons_of_mem _ (hsub _ (sB _ (m₆ p hp))))))))), ?_⟩
      intro I' oI' C' oC' D' m₂' h tk E' hNs' hm1 hm2 F N off' ne'
      (try dsimp only)
      k_steps
      refine lower_c (Frag.In.keeps X F.keep) R₁ (good _ (List.getElem_mem hj)).1 ?_
      intro h₅ tk₅ t₅ up₅
      have F := F.keeps up₅
      have N := N.grown up₅
      (try dsimp only)
      k_steps
      refine lower_c (Frag.In.keeps X F.keep) R₁ hqN ?_
      intro h₆ tk₆ t₆ up₆
      have F := F.keeps up₆
      have N := N.grown up₆
      (try dsimp only)
      k_steps
      · (rename (low _ == _) = true => hb)
        replace hb : (low RF[j].1 == low q) = true := hb
        refine LCg.CompEnd.intro F N _ (fun p hp => hp) off' hS ⟨rfl, ?_⟩
        rw [filter_snoc hj, if_pos hb, List.map_append]
        exact hinv.snoc
      · (rename (low _ == _) = false => hb)
        replace hb : (low RF[j].1 == low q) = false := hb
        refine LCg.CompEnd.intro F N _ (fun p hp => hp) off' hS ⟨rfl, ?_⟩
        rw [filter_snoc hj, if_neg (by rw [hb]; exact Bool.false_ne_true), List.append_nil]
        exact hinv
    rintro hys nw' ⟨rfl, st⟩ D₂ h tk F N offh
    rw [kRw₆.1, List.take_length] at st
    replace F : Fr h₀ L h _ := F
    replace N : News h₀ L h _ := N
    (try dsimp only)
    have hs' : ∀ p ∈ nw, p ∈ (D₂, LCg.lst hys) :: nw := fun p hp => List.mem_cons_of_mem _ hp
    refine LCg.CompEnd.intro F N ((Xc, oX) :: (D₂, LCg.lst hys) :: nw) (fun p hp => ?_) ⟨off.1, ⟨Ne.symm offh.1, Ne.symm offh.2.1, Ne.symm offh.2.2.1⟩, off.2⟩ trivial ⟨_, rfl, (fun p hp => ?_), .inr ⟨_, hs' _ (hsub _ (sB _ mN)), rfl, _, rfl⟩, fun p hp => hs' _ (hsub p hp), ?_⟩
    · simp only [List.mem_cons] at hp ⊢
      rcases hp with h | h | h | h | h | h <;> simp [h]
    · rcases List.mem_cons.mp hp with rfl | hp
      · exact Ne.symm offh.2.2.2.1
      · exact offX p hp
    · rw [hqt]; exact lks_snoc ⟨D₂, hys, _, rfl, List.Mem.head _, st⟩ (lks_mono hs' hall)
  rintro ys₂ nw₂ ⟨hsub₂, hall₂⟩
  intro Gs h tk F N offs
  replace F : Fr h₀ L h _ := F
  replace N : News h₀ L h _ := N
  (try dsimp only)
  k_steps
  unfold Hold
  have okv : ∀ xs ∈ (nms.take 4).map (vals RF), ∀ x ∈ xs, okS x := by
    intro xs hxs x hx
    obtain ⟨q, _, rfl⟩ := List.mem_map.mp hxs
    obtain ⟨kv, hk, rfl⟩ := List.mem_map.mp hx
    exact (good kv (List.mem_filter.mp hk).1).2
  have aB : ∀ q ∈ B, q ∈ (Gs, LCg.lst ys₂) :: nw₂ := fun q hq => List.mem_cons_of_mem _ (hsub₂ _ (sB _ hq))
  refine ne_lls_c (vs := ys₁) (ws := ys₂) (N _ (List.mem_cons_of_mem _ (hsub₂ _ mGl))).1 (lks_at N (lks_mono (fun q hq => List.mem_cons_of_mem _ (hsub₂ _ hq)) hall₁)) okv (N _ (List.Mem.head _)).1 (lks_at N (lks_mono (fun q hq => List.mem_cons_of_mem _ hq) hall₂)) (by units_room) ?_
  have Nx₆ : News h₀ L h ext₆ := fun q hq => N q (aB q (m₆ q hq))
  have t33' : ((33 : Addr), tableObj #[]) ∈ ext₆ := m₄ _ (by rw [hx₄]; exact List.mem_append_right _ t33)
  have t282' : ((282 : Addr), tableObj #[]) ∈ ext₆ := m₄ _ (by rw [hx₄]; exact List.mem_append_right _ t282)
  have kRw₅ := rowsK_ft Nx₆ t33' t282' kRw₅
  have kRw₆ := rowsK_ft Nx₆ t33' t282' kRw₆
  have kRd := kept_ft Nx₆ t33' t282' kRd (fun _ e => by cases e)
  have kAn₅ := kept_ft Nx₆ t33' t282' kAn₅ (fun _ e => by cases e)
  have N : News h₀ L h ((H, instObj 238 d) :: (d, dictOf [⟨hh, .str (Str.ofString "_headers") kt, .ref Dl⟩] nd) :: (Dl, lstO its₅ e₅) :: (L + 1, om) :: (L + 1 + 1, odu) :: (282, tableObj #[]) :: (33, tableObj #[]) :: ft ext₆) := fun q hq => by
    rcases List.mem_cons.mp hq with rfl | hq
    · exact N _ (aB _ mH)
    rcases List.mem_cons.mp hq with rfl | hq
    · exact N _ (aB _ md)
    rcases List.mem_cons.mp hq with rfl | hq
    · exact N _ (aB _ mD)
    rcases List.mem_cons.mp hq with rfl | hq
    · exact N _ (aB _ mM)
    rcases List.mem_cons.mp hq with rfl | hq
    · exact N _ (aB _ mU)
    rcases List.mem_cons.mp hq with rfl | hq
    · exact Nx₆ _ t282'
    rcases List.mem_cons.mp hq with rfl | hq
    · exact Nx₆ _ t33'
    · exact Nx₆ _ (ft_mem hq)
  have hne₇ : ∀ q ∈ ft ext₆, q.1 ≠ 33 ∧ q.1 ≠ 282 := fun q hq => ft_ne hq
  have sq₇ : ∀ q ∈ ft ext₆, seqB q.2 = true := fun q hq => sq₆ q (ft_mem hq)
  obtain ⟨ext₇, hx₇⟩ : ∃ e, e = ft ext₆ := ⟨_, rfl⟩
  rw [← hx₇] at kRw₅ kRw₆ kRd kAn₅ N hne₇ sq₇
  clear Nx₆
  have hRl : RF.length ≤ 12 := by
    rw [hRF]
    have h1 := fold_len (st := (rows₀, [])) hok
    have h2 : rows₀.length = 2 := rfl
    dsimp only at h1
    omega
  (try dsimp only)
  k_steps
  refine items_c TW (Frag.In.keeps X F.keep) (R₁.less (by decide)) ⟨(N _ (List.Mem.head _)).1, (N _ (List.Mem.tail _ (List.Mem.head _))).1, (N _ (List.Mem.tail _ (List.Mem.tail _ (List.Mem.head _)))).1, D₅.head.hi⟩ (by have := kRw₅.1; omega) ?_
  intro Dj ej h₁₄ tk₁₄ up₁₄ new₁₄ get₁₄
  have N := news_add F (N.grown up₁₄) get₁₄ new₁₄
  have F := F.keeps up₁₄
  (try dsimp only)
  k_steps
  have n33 := N _ (List.Mem.tail _ (List.Mem.tail _ (List.Mem.tail _ (List.Mem.tail _ (List.Mem.tail _ (List.Mem.tail _ (List.Mem.tail _ (List.Mem.head _))))))))
  refine key_c TW (Frag.In.keeps X F.keep) n33.1 (R₁.less (by decide)) ?_
  intro aK x h₁₅ tk₁₅ ps₁₅ nk u₁₅ g33 fr₁₅ ok₁₅
  have N₁₄ := N
  have N := news_drop (nw' := (Dj, lstO its₅ ej) :: (H, instObj 238 d) :: (d, dictOf [⟨hh, .str (Str.ofString "_headers") kt, .ref Dl⟩] nd) :: (Dl, lstO its₅ e₅) :: (L + 1, om) :: (L + 1 + 1, odu) :: (282, tableObj #[]) :: (33, tabObj ps₁₅) :: (nk ++ ext₇)) F N u₁₅ fr₁₅ (fun q hq => by
    simp only [List.mem_cons, List.mem_append] at hq
    rcases hq with rfl | rfl | rfl | rfl | rfl | rfl | rfl | rfl | hq | hq
    · exact .inr (.inl ⟨(List.Mem.head _), get_ne (N _ (List.Mem.head _)).1 n33.1 (fun e => by cases e)⟩)
    · exact .inr (.inl ⟨(List.Mem.tail _ (List.Mem.head _)), get_ne (N _ (List.Mem.tail _ (List.Mem.head _))).1 n33.1 (fun e => by cases e)⟩)
    · exact .inr (.inl ⟨(List.Mem.tail _ (List.Mem.tail _ (List.Mem.head _))), get_ne (N _ (List.Mem.tail _ (List.Mem.tail _ (List.Mem.head _)))).1 n33.1 (fun e => by cases e)⟩)
    · exact .inr (.inl ⟨(List.Mem.tail _ (List.Mem.tail _ (List.Mem.tail _ (List.Mem.head _)))), get_ne (N _ (List.Mem.tail _ (List.Mem.tail _ (List.Mem.tail _ (List.Mem.head _))))).1 n33.1 (fun e => by cases e)⟩)
    · exact .inr (.inl ⟨(List.Mem.tail _ (List.Mem.tail _ (List.Mem.tail _ (List.Mem.tail _ (List.Mem.head _))))), Ne.symm (cell_ne n33.1 (N _ (List.Mem.tail _ (List.Mem.tail _ (List.Mem.tail _ (List.Mem.tail _ (List.Mem.head _)))))).1 dm (fun _ e => by cases e))⟩)
    · exact .inr (.inl ⟨(List.Mem.tail _ (List.Mem.tail _ (List.Mem.tail _ (List.Mem.tail _ (List.Mem.tail _ (List.Mem.head _)))))), Ne.symm (cell_ne n33.1 (N _ (List.Mem.tail _ (List.Mem.tail _ (List.Mem.tail _ (List.Mem.tail _ (List.Mem.tail _ (List.Mem.head _))))))).1 ddu (fun _ e => by cases e))⟩)
    · exact .inr (.inl ⟨(List.Mem.tail _ (List.Mem.tail _ (List.Mem.tail _ (List.Mem.tail _ (List.Mem.tail _ (List.Mem.tail _ (List.Mem.head _))))))), by decide⟩)
    · exact .inr (.inr ⟨g33, n33.2⟩)
    · exact .inl hq
    · exact .inr (.inl ⟨by simp [hq], (hne₇ _ hq).1⟩))
  have F := fr_upbut F u₁₅ n33.2.2 n33.2.1
  obtain ⟨ext₈, hx₈⟩ : ∃ e, e = (33, tabObj ps₁₅) :: (nk ++ ext₇) := ⟨_, rfl⟩
  have t33₈ : ((33 : Addr), tabObj ps₁₅) ∈ ext₈ := by rw [hx₈]; exact List.Mem.head _
  have m₈ : ∀ q ∈ ext₇, q ∈ ext₈ := fun q hq => by rw [hx₈]; exact List.mem_cons_of_mem _ (List.mem_append_right _ hq)
  have mnk : ∀ q ∈ nk, q ∈ ext₈ := fun q hq => by rw [hx₈]; exact List.mem_cons_of_mem _ (List.mem_append_left _ hq)
  rw [← hx₈] at N
  have kRw₅ := kRw₅.mono m₈
  have kRw₆ := kRw₆.mono m₈
  have kRd := kRd.mono m₈
  have kAn₅ := kAn₅.mono m₈
  have ne282 : ∀ q ∈ ext₈, q.1 ≠ 282 := fun q hq => by
    rw [hx₈] at hq
    rcases List.mem_cons.mp hq with rfl | hq
    · show (33 : Addr) ≠ 282
      decide
    rcases List.mem_append.mp hq with hq | hq
    · exact fun e => by have z := (fr₁₅ _ hq).2; rw [e, (N₁₄ _ (List.Mem.tail _ (List.Mem.tail _ (List.Mem.tail _ (List.Mem.tail _ (List.Mem.tail _ (List.Mem.tail _ (List.Mem.head _)))))))).1] at z; cases z
    · exact (hne₇ _ hq).2
  (try dsimp only)
  k_steps
  unfold Hold
  refine sort1_c (nk := nk) TW X (R₁.less (by decide)) F N ⟨_, (N _ (List.Mem.head _)).1, rfl, _, rfl⟩ kRw₅ (fun q hq => List.mem_cons_of_mem _ (List.mem_cons_of_mem _ (List.mem_cons_of_mem _ (List.mem_cons_of_mem _ (List.mem_cons_of_mem _ (List.mem_cons_of_mem _ (List.mem_cons_of_mem _ (hq)))))))) (by omega) good (fun q hq => List.mem_cons_of_mem _ (List.mem_cons_of_mem _ (List.mem_cons_of_mem _ (List.mem_cons_of_mem _ (List.mem_cons_of_mem _ (List.mem_cons_of_mem _ (List.mem_cons_of_mem _ (mnk _ hq)))))))) ok₁₅ ?_
  intro S1 its₇ h₁₆ tk₁₆ c₁₆ F N kS1
  (try dsimp only)
  k_steps
  unfold Hold
  have n282 := N _ (List.Mem.tail _ (List.Mem.tail _ (List.Mem.tail _ (List.Mem.tail _ (List.Mem.tail _ (List.Mem.tail _ (List.Mem.tail _ (List.Mem.head _))))))))
  refine kla_eval rfl (lamMake_c TW (Frag.In.keeps X F.keep) n282.1 (by with_unfolding_all rfl) rfl rfl ?_)
  intro fL cL ocL vsL tqL pmL ctvL h₁₇ tk₁₇ ps₁₇ u₁₇ g282 fr₁₇ hdL hvL
  have kC1 := N _ (List.Mem.tail _ (List.Mem.tail _ (List.Mem.tail _ (List.Mem.tail _ (List.Mem.tail _ (List.Mem.head _))))))
  have kC2 := N _ (List.Mem.tail _ (List.Mem.tail _ (List.Mem.tail _ (List.Mem.tail _ (List.Mem.tail _ (List.Mem.tail _ (List.Mem.head _)))))))
  have N := news_drop (nw' := (S1, lstO its₇ c₁₆) :: (fL, _) :: (cL, _) :: (H, instObj 238 d) :: (d, dictOf [⟨hh, .str (Str.ofString "_headers") kt, .ref Dl⟩] nd) :: (Dl, lstO its₅ e₅) :: (L + 1, om) :: (L + 1 + 1, odu) :: (282, tabObj ps₁₇) :: ext₈) F N u₁₇ fr₁₇ (fun q hq => by
    rcases List.mem_cons.mp hq with rfl | hq
    · exact .inr (.inl ⟨(List.Mem.head _), get_ne (N _ (List.Mem.head _)).1 n282.1 (fun e => by cases e)⟩)
    rcases List.mem_cons.mp hq with rfl | hq
    · exact .inl (List.Mem.head _)
    rcases List.mem_cons.mp hq with rfl | hq
    · exact .inl (List.Mem.tail _ (List.Mem.head _))
    rcases List.mem_cons.mp hq with rfl | hq
    · exact .inr (.inl ⟨(List.Mem.tail _ (List.Mem.tail _ (List.Mem.head _))), get_ne (N _ (List.Mem.tail _ (List.Mem.tail _ (List.Mem.head _)))).1 n282.1 (fun e => by cases e)⟩)
    rcases List.mem_cons.mp hq with rfl | hq
    · exact .inr (.inl ⟨(List.Mem.tail _ (List.Mem.tail _ (List.Mem.tail _ (List.Mem.head _)))), get_ne (N _ (List.Mem.tail _ (List.Mem.tail _ (List.Mem.tail _ (List.Mem.head _))))).1 n282.1 (fun e => by cases e)⟩)
    rcases List.mem_cons.mp hq with rfl | hq
    · exact .inr (.inl ⟨(List.Mem.tail _ (List.Mem.tail _ (List.Mem.tail _ (List.Mem.tail _ (List.Mem.head _))))), get_ne (N _ (List.Mem.tail _ (List.Mem.tail _ (List.Mem.tail _ (List.Mem.tail _ (List.Mem.head _)))))).1 n282.1 (fun e => by cases e)⟩)
    rcases List.mem_cons.mp hq with rfl | hq
    · exact .inr (.inl ⟨(List.Mem.tail _ (List.Mem.tail _ (List.Mem.tail _ (List.Mem.tail _ (List.Mem.tail _ (List.Mem.head _)))))), Ne.symm (cell_ne n282.1 kC1.1 dm (fun _ e => by cases e))⟩)
    rcases List.mem_cons.mp hq with rfl | hq
    · exact .inr (.inl ⟨(List.Mem.tail _ (List.Mem.tail _ (List.Mem.tail _ (List.Mem.tail _ (List.Mem.tail _ (List.Mem.tail _ (List.Mem.head _))))))), Ne.symm (cell_ne n282.1 kC2.1 ddu (fun _ e => by cases e))⟩)
    rcases List.mem_cons.mp hq with rfl | hq
    · exact .inr (.inr ⟨g282, n282.2⟩)
    · exact .inr (.inl ⟨by simp [hq], ne282 _ hq⟩))
  have F := fr_upbut F u₁₇ n282.2.2 n282.2.1
  (try dsimp only)
  k_steps
  unfold Hold
  have Nx₈ : News h₀ L _ ext₈ := (newsTail (newsTail (newsTail (newsTail (newsTail (newsTail (newsTail (newsTail (newsTail N)))))))))
  refine sort2_c F N ⟨_, kRd.get F Nx₈, rfl, _, rfl⟩ kRw₆ (fun q hq => List.mem_cons_of_mem _ (List.mem_cons_of_mem _ (List.mem_cons_of_mem _ (List.mem_cons_of_mem _ (List.mem_cons_of_mem _ (List.mem_cons_of_mem _ (List.mem_cons_of_mem _ (List.mem_cons_of_mem _ (List.mem_cons_of_mem _ (hq)))))))))) (by omega) good ?_ ?_
  · intro h tk nw r k v t1 t2 F N hs hr hk hv Q' hq
    refine enterL (n := 3) TW (Frag.In.keeps X F.keep) (R₁.in1.in1.less (by decide)) (N _ (hs _ (List.Mem.tail _ (List.Mem.head _)))).1 ⟨cL, ocL, vsL, tqL, rfl, (N _ (hs _ (List.Mem.tail _ (List.Mem.tail _ (List.Mem.head _))))).1, hdL, hvL⟩ rfl (locs rfl) ?_ (by decide)
    clear N F
    intro h₀ L h₁ tk₁ F N X T₀ hup hdn R₁
    have g1 := hup r _ hr
    have iT : IsTup h₀ r #[.str k t1, .str v t2] := isTup_of g1
    (try dsimp only)
    k_steps
    refine rights_c (n := 0) TW (Frag.In.keeps X F.keep) (R₁.less (by decide)) (F.keep _ _ g1) hv ?_
    intro h₂ tk₂ u₂ up₂
    have F := F.keeps up₂
    have N := N.grown up₂
    (try dsimp only)
    k_steps
    (rename Fr _ _ _ _ => F)
    (rename News _ _ _ _ => N)
    (try dsimp only)
    k_steps
    refine lower_c (Frag.In.keeps X F.keep) R₁ hk ?_
    intro h₄ tk₄ u₄ up₄
    have F := F.keeps up₄
    have N := N.grown up₄
    (try dsimp only)
    k_steps
    (rename Fr _ _ _ _ => F)
    (rename News _ _ _ _ => N)
    have nT := N _ (List.Mem.head _)
    refine hq _ _ _ _ _ (fun b o e => F.keep _ _ (hup b o e)) nT.1 ?_
    cases z : h.get? _ with
    | none => rfl
    | some o => have := hup _ _ z; rw [nT.2.2] at this; cases this
  intro S2 its₈ h₁₈ tk₁₈ c₁₈ F N kS2
  (try dsimp only)
  k_steps
  unfold Hold
  have Nx₉ : News h₀ L _ ext₈ := (newsTail (newsTail (newsTail (newsTail (newsTail (newsTail (newsTail (newsTail (newsTail (newsTail N))))))))))
  refine ne_rows_c (N _ (List.Mem.tail _ (List.Mem.head _))).1 (kS1.rows F Nx₉) (fun kv hkv => ⟨ok_names _ (good kv (sortR_mem kv hkv)).1, (good kv (sortR_mem kv hkv)).2⟩) (N _ (List.Mem.head _)).1 (kS2.rows F Nx₉) (by units_room) ?_
  clear Nx₈ Nx₉
  (try dsimp only)
  k_steps
  (rename Fr _ _ _ _ => F)
  (rename News _ _ _ _ => N)
  have Nx₉ : News h₀ L _ ext₈ := (newsTail (newsTail (newsTail (newsTail (newsTail (newsTail (newsTail (newsTail (newsTail (newsTail (newsTail (newsTail N))))))))))))
  have n33 := Nx₉ _ t33₈
  have n282 := N _ (List.Mem.tail _ (List.Mem.tail _ (List.Mem.tail _ (List.Mem.tail _ (List.Mem.tail _ (List.Mem.tail _ (List.Mem.tail _ (List.Mem.tail _ (List.Mem.tail _ (List.Mem.tail _ (List.Mem.tail _ (List.Mem.head _))))))))))))
  have nS := N _ (List.Mem.head _)
  have nDl := N _ (List.Mem.tail _ (List.Mem.tail _ (List.Mem.tail _ (List.Mem.tail _ (List.Mem.tail _ (List.Mem.tail _ (List.Mem.tail _ (List.Mem.tail _ (List.Mem.head _)))))))))
  refine reduce_c (its := its₅) (rows := RF) (avs := avs₅) (ans := (List.foldl wlk (rows₀, []) acts).snd) (acts := []) (aits := #[]) TW (Frag.In.keeps X F.keep) (R₁.less (by decide)) ⟨nS.1, ⟨(N _ (List.Mem.tail _ (List.Mem.tail _ (List.Mem.tail _ (List.Mem.tail _ (List.Mem.tail _ (List.Mem.tail _ (List.Mem.head _)))))))).1, (N _ (List.Mem.tail _ (List.Mem.tail _ (List.Mem.tail _ (List.Mem.tail _ (List.Mem.tail _ (List.Mem.tail _ (List.Mem.tail _ (List.Mem.head _))))))))).1, nDl.1, D₅.head.hi⟩, kRw₅.rows F Nx₉, kAn₅.get F Nx₉, hst₅, D₅.ne⟩ (fun _ h => nomatch h) (N _ (List.Mem.tail _ (List.Mem.head _))).1 (by k_ne) ⟨rfl, fun _ _ h => by cases h⟩ (fun kv hkv => (good kv hkv).1) (by show its₅.size + 0 ≤ 900; have := kRw₅.1; omega) (by show avs₅.length + 0 ≤ 900; have h1 := strs_len hst₅; have h2 := fold_alen (acts := acts) (st := (rows₀, [])); dsimp only [List.length_nil] at h2; omega) ?_
  clear Nx₉
  intro S₉ An₉ its₉ e₉ avs₉ ea₉ h₂₀ tk₂₀ u₂₀ D₂₀ hS₉
  obtain rfl := hS₉ rfl
  have N := news_drop (nk := []) (nw' := (S₉, tupO [.ref H, .ref An₅]) :: (H, instObj 238 d) :: (L + 1, om) :: (33, tabObj ps₁₅) :: (282, tabObj ps₁₇) :: []) F N u₂₀ (fun _ h => nomatch h) (fun q hq => by
    rcases List.mem_cons.mp hq with rfl | hq
    · exact .inr (.inl ⟨(List.Mem.head _), get_ne nS.1 nDl.1 (fun e => absurd (Value.type.inj e) (by decide))⟩)
    rcases List.mem_cons.mp hq with rfl | hq
    · exact .inr (.inl ⟨(List.Mem.tail _ (List.Mem.tail _ (List.Mem.tail _ (List.Mem.tail _ (List.Mem.tail _ (List.Mem.tail _ (List.Mem.head _))))))), get_ne (N _ (List.Mem.tail _ (List.Mem.tail _ (List.Mem.tail _ (List.Mem.tail _ (List.Mem.tail _ (List.Mem.tail _ (List.Mem.head _)))))))).1 nDl.1 (fun e => by cases e)⟩)
    rcases List.mem_cons.mp hq with rfl | hq
    · exact .inr (.inl ⟨(List.Mem.tail _ (List.Mem.tail _ (List.Mem.tail _ (List.Mem.tail _ (List.Mem.tail _ (List.Mem.tail _ (List.Mem.tail _ (List.Mem.tail _ (List.Mem.tail _ (List.Mem.head _)))))))))), Ne.symm (cell_ne nDl.1 (N _ (List.Mem.tail _ (List.Mem.tail _ (List.Mem.tail _ (List.Mem.tail _ (List.Mem.tail _ (List.Mem.tail _ (List.Mem.tail _ (List.Mem.tail _ (List.Mem.tail _ (List.Mem.head _))))))))))).1 dm (fun _ e => by cases e))⟩)
    rcases List.mem_cons.mp hq with rfl | hq
    · exact .inr (.inl ⟨by simp [t33₈], get_ne n33.1 nDl.1 (fun e => by cases e)⟩)
    rcases List.mem_cons.mp hq with rfl | hq
    · exact .inr (.inl ⟨(List.Mem.tail _ (List.Mem.tail _ (List.Mem.tail _ (List.Mem.tail _ (List.Mem.tail _ (List.Mem.tail _ (List.Mem.tail _ (List.Mem.tail _ (List.Mem.tail _ (List.Mem.tail _ (List.Mem.tail _ (List.Mem.head _)))))))))))), get_ne n282.1 nDl.1 (fun e => by cases e)⟩)
    · cases hq)
  have F := fr_upbut F u₂₀ nDl.2.2 nDl.2.1
  (try dsimp only)
  k_steps
  (try dsimp only)
  k_steps
  (rename Fr _ _ _ _ => F)
  (rename News _ _ _ _ => N)
  refine eq_tup2_same (x := H) (y := An₅) (N _ (List.Mem.tail _ (List.Mem.head _))).1 (N _ (List.Mem.head _)).1 (by units_room) ?_
  (try dsimp only)
  refine hQ _ _ ps₁₅ ps₁₇ (fun b o n1 n2 e => F.keep _ _ (hup b o (fun p hp => ?_) e)) (N _ (List.Mem.tail _ (List.Mem.tail _ (List.Mem.tail _ (List.Mem.tail _ (List.Mem.head _)))))).1 (N _ (List.Mem.tail _ (List.Mem.tail _ (List.Mem.tail _ (List.Mem.tail _ (List.Mem.tail _ (List.Mem.head _))))))).1
  simp only [List.mem_cons, List.not_mem_nil, or_false] at hp
  rcases hp with rfl | rfl
  · exact n1
  · exact n2
end
theorem kw30 : True := by
  k_with_none
  trivial
end
section
theorem oldK_law {h h' : Heap} {ps ps' : Array Value} (T1 : h.TableAt 37 33 #[]) (T2 : h.TableAt 284 282 #[]) (keep : ∀ b o, b ≠ 33 → b ≠ 282 → h.get? b = some o → h'.get? b = some o) (g1 : h'.get? 33 = some (tabObj ps)) (g2 : h'.get? 282 = some (tabObj ps')) : OldK h h' := by
  refine ⟨fun b o e => ?_, fun b o e => ?_⟩
  · by_cases h1 : b = 33
    · subst h1
      have : o = tableObj #[] := Option.some.inj (e.symm.trans T1.2)
      subst this
      exact .inr (.inl ⟨T1.isCodeTable, rfl, #[], ps, rfl, by rw [g1]; simp [tabObj, tableObj]⟩)
    by_cases h2 : b = 282
    · subst h2
      have : o = tableObj #[] := Option.some.inj (e.symm.trans T2.2)
      subst this
      exact .inr (.inl ⟨T2.isCodeTable, rfl, #[], ps', rfl, by rw [g2]; simp [tabObj, tableObj]⟩)
    exact .inl (keep b o h1 h2 e)
  · by_cases h1 : b = 33
    · subst h1; exact ⟨_, g1⟩
    by_cases h2 : b = 282
    · subst h2; exact ⟨_, g2⟩
    exact ⟨o, keep b o h1 h2 e⟩
theorem kk_erase (P : Params) : KK P = ((hk.heap_1 P).eraseIdx 248).eraseIdx 17 := by kernel_rfl
noncomputable def keysUp : List Nat → Bool
  | a :: b :: r => Nat.blt a b && keysUp (b :: r)
  | _ => true
theorem keysUp_lt : ∀ {l : List Nat} {a : Nat}, keysUp (a :: l) = true → ∀ b ∈ l, a < b
  | [], _, _, _, h => nomatch h
  | c :: r, a, h, b, hb => by
    unfold keysUp at h
    obtain ⟨h1, h2⟩ := Bool.and_eq_true_iff.mp h
    have h1 := Nat.blt_eq.mp h1
    rcases List.mem_cons.mp hb with rfl | hb
    · exact h1
    · exact Nat.lt_trans h1 (keysUp_lt h2 b hb)
theorem keysUp_tail {l : List Nat} {a : Nat} (h : keysUp (a :: l) = true) : keysUp l = true := by
  cases l with
  | nil => rfl
  | cons b r => unfold keysUp at h; exact (Bool.and_eq_true_iff.mp h).2
theorem lookup_sub {K K' : Frag} (hs : K'.Sublist K) : keysUp (K.map (·.1)) = true → ∀ {a : Addr} {o : Obj}, K'.lookup a = some o → K.lookup a = some o := by
  induction hs with
  | slnil => intro _ a o h; exact h
  | cons x hs ih =>
    rename_i l₁ l₂
    intro hk a o h
    have := ih (keysUp_tail hk) h
    obtain ⟨b, ob⟩ := x
    have hm : a ∈ l₂.map (·.1) := by
      have : (a, o) ∈ l₂ := by
        clear ih h hs hk
        induction l₂ with
        | nil => cases this
        | cons q r ih =>
          obtain ⟨c, oc⟩ := q
          rw [List.lookup_cons] at this
          by_cases e : a = c
          · subst e; simp at this; subst this; exact List.Mem.head _
          · rw [beq_false_of_ne e] at this; exact List.Mem.tail _ (ih this)
      exact List.mem_map_of_mem this
    have hl := keysUp_lt hk a hm
    rw [List.lookup_cons, beq_false_of_ne (Nat.ne_of_gt hl)]
    exact this
  | cons_cons x hs ih =>
    intro hk a o h
    obtain ⟨b, ob⟩ := x
    rw [List.lookup_cons] at h ⊢
    by_cases e : a = b
    · subst e; simpa using h
    · rw [beq_false_of_ne e] at h ⊢
      exact ih (keysUp_tail hk) h
theorem heap_up (P : Params) : keysUp ((hk.heap_1 P).map (·.1)) = true := by kernel_rfl
theorem kk_in {P : Params} {h : Heap} (X : (hk.heap_1 P).In h) : (KK P).In h := fun a o e =>
  X a o (lookup_sub (by rw [kk_erase]; exact (List.eraseIdx_sublist ..).trans (List.eraseIdx_sublist ..)) (heap_up P) e)
theorem look33 (P : Params) : (hk.heap_1 P).lookup 33 = some (tableObj #[]) := by kernel_rfl
theorem look282 (P : Params) : (hk.heap_1 P).lookup 282 = some (tableObj #[]) := by kernel_rfl
theorem tab1 {P : Params} {h : Heap} (X : (hk.heap_1 P).In h) : h.TableAt 37 33 #[] := ⟨⟨_, _, kk_in X 37 _ (by k_is), rfl, rfl, rfl⟩, X 33 _ (look33 P)⟩
theorem tab2 {P : Params} {h : Heap} (X : (hk.heap_1 P).In h) : h.TableAt 284 282 #[] := ⟨⟨_, _, kk_in X 284 _ (by k_is), rfl, rfl, rfl⟩, X 282 _ (look282 P)⟩
end
end N1
open PySem.W.X N1
set_option maxRecDepth 100000 in
set_option maxHeartbeats 0 in
theorem PySem.Challenge.cw_ny0280_01_holds : PySem.Challenge.rw_ny0280_01.Holds := by
  w_on
  refine holds_law saidV fun said => ?_
  refine holds_open (q := qv) (loose := looseV) (Xt := fun s => xlAt qv [] s && recOk (RowW.records (OpenRow.toRowW (OpenLaw.row PySem.Challenge.rw_ny0280_01))) s) (XP := XL qv []) (Yf := Hook.obs HV) (Ya := Hook.val HV) (YP := Hook.says HV) (N := 3564) leftV (Hook.of HV) (Hook.keeps HV)
    (fun s e => xl_of s (Bool.and_eq_true_iff.mp e).1) XL.keeps (by rfl) (by rfl) (by rfl) (fun s e => recFacts_of (Bool.and_eq_true_iff.mp e).2) (by rfl) (by first | assumption | decide +kernel) (by decide +kernel) ⟨rfl, rfl, rfl, rfl, rfl, by decide +kernel⟩ ?hw ?hc
  case hw => w_witness2
  intro w s₀ s₁ mg mb G Y fa o pm cd doc dV kV ho hd hcd hD hmg hg args vals as hpre hlay hrd hwl hlo
  have KX := kIn_of Y
  have X := (Ground.X G).1
  have V := (Ground.X G).2
  refine Ground.open G ?_
  intro T B D TE TW
  wrow_args hpre hlay hrd hwl hlo
  all_goals (
    obtain rfl : fa = 285 := Value.ref.inj (Option.some.inj (hmg.symm.trans (mg_of (kk_in KX) (topRead_of T).g (by kernel_rfl))))
    (try all_lens)
    refine law_c (tops_of (topRead_of T) (kk_in KX)) (kk_in KX) (KX 33 _ (look33 _)) (KX 282 _ (look282 _)) ⟨rfl, by decide, by decide⟩ (by assumption) (by assumption) (by omega) ?_
    intro h' tk' ps ps' keep g1 g2
    exact ⟨.inl ⟨_, _, [], rfl, fun _ => rfl, ReadsW.bool true, by first | rfl | wrow_post, fun _ => ⟨List.nodup_nil, fun _ hm => (nomatch hm)⟩⟩, oldK_law (tab1 KX) (tab2 KX) keep g1 g2, rfl, by first | exact AllBare.empty | exact .of_eq rfl | exact .of_eq (by assumption)⟩)
