import PyProof.Rows.All
import Wide.All
import OpenK.AllK
import Wide.FinOn
import PySem.Challenge.RW_qw0067_01
local macro_rules | `(tactic| omega) => `(tactic| lia)
set_option maxHeartbeats 1600000

section
open PySem PySem.W PyProof.Rows
set_option Elab.async false
set_option maxRecDepth 100000
namespace Mine
theorem LeftO.of_run {p q : Program} {loose : List Str} {Xt : Shared → Bool} {α : Type} {Yf : Shared → α} {Ya : World → α} {N : Nat} {g0 : Bool} {H₀ : Params → Heap} {gs₀ : Array GenState} {d₀ : Drawn} {k₀ m₀ : Nat} {ann : Option Value} {M : Nat}
    (ho : ∀ w : World, (fencedOpening treeTable p w N).map (fun s => (s.heap, s.gens, s.drawn, s.toks)) = some (H₀ w.params, gs₀, d₀, k₀))
    (hs : ∀ w : World, ((H₀ w.params).isNs mainGlobals && gs₀.size == 0) = true ∧ (H₀ w.params).objs.size = m₀ ∧ (H₀ w.params).nsMap mainGlobals "__annotations__" = ann) (le : M ≤ N)
    (hr : ∀ (w : World) (os : OsState), ∃ s₁, topRun treeTable p w m₀ ann M ⟨H₀ w.params, gs₀, d₀, k₀, os⟩ (topStub p) = some s₁ ∧
      (staticsOk (importedModules p.main.body) (H₀ w.params) s₁.heap && namesBound p s₁.heap && gensDone s₁ && laidKept (H₀ w.params) s₁.heap) = true ∧ openSeen q loose (importedModules p.main.body) Xt g0 s₁ = openGood q loose ∧ Yf s₁ = Ya w) : LeftO p q loose Xt Yf Ya N g0 := fun w => by
  obtain ⟨⟨h, gs, d, k, os⟩, e, e'⟩ := Option.map_eq_some_iff.mp (ho w)
  simp only [Prod.mk.injEq] at e'
  obtain ⟨rfl, rfl, rfl, rfl⟩ := e'
  obtain ⟨s₁, r, l1, l2, l3⟩ := hr w os
  obtain ⟨z1, z2, z3⟩ := hs w
  have r' := topRun_mono (N - M) _ _ _ _ r
  rw [Nat.add_sub_cancel' le] at r'
  have t : topFrom treeTable p w N ⟨H₀ w.params, gs, d, k, os⟩ = some s₁ := by
    unfold topFrom
    simp only [z1, z2, z3]
    rw [r']
    simp only [Option.bind_some, l1]
  unfold openEnds
  rw [e, Option.bind_some, t]
  exact congrArg some (Prod.ext l2 l3)
theorem top_open0 : ∀ w : World, (importEnds treeTable (opening PySem.Challenge.pw_qw0067_01) w 600 (start (opening PySem.Challenge.pw_qw0067_01)).1 (start (opening PySem.Challenge.pw_qw0067_01)).2).map (fun s => (s.heap, s.gens, s.drawn, s.toks)) = some (boot_heap w.params, Array.mk [], boot_drawn, boot_toks) := fun w => by kernel_rfl
theorem top_open (w : World) : (fencedOpening treeTable PySem.Challenge.pw_qw0067_01 w 40000).map (fun s => (s.heap, s.gens, s.drawn, s.toks)) = some (boot_heap w.params, Array.mk [], boot_drawn, boot_toks) := by
  obtain ⟨s, hs, hv⟩ := Option.map_eq_some_iff.mp (top_open0 w)
  have m := importEnds_mono 39400 _ _ _ _ hs
  unfold fencedOpening
  rw [m]
  exact congrArg some hv
theorem top_size (w : World) : ((boot_heap w.params).isNs mainGlobals && (Array.mk [] : Array GenState).size == 0) = true ∧ (boot_heap w.params).objs.size = 11 ∧ (boot_heap w.params).nsMap mainGlobals "__annotations__" = some (.ref 6) := ⟨by kernel_rfl, by kernel_rfl, by kernel_rfl⟩
end Mine

end
section
open PySem PySem.W PyProof.Rows
set_option Elab.async false
set_option maxRecDepth 100000
namespace Mine
noncomputable section
noncomputable def en (P : Params) (k : List Nat) (t : Nat) (v : Value) : DictEntry := { hash := PyData.keyHash P ⟨k.toArray⟩, key := .str ⟨k.toArray⟩ t, val := v }
noncomputable def ofO (f : Obj → Obj) (o : Obj) : Obj := f o
noncomputable def codeObj (n : List Nat) (t line e opts own : Nat) (a f u w x : Value) (b : Bool) : Obj :=
  { cls := .type "code", data := .fields #[.str ⟨n.toArray⟩ t, .str ⟨n.toArray⟩ (t + 1), .str ⟨#[47, 99, 108, 97, 105, 109, 47, 99, 117, 116, 46, 112, 121]⟩ (t + 2), .int 1 0, .int line 0, .int 0 0, .int 0 0, .int e 0, a, .bool b, .int 181 0, f, .none, u, w, x, .int opts 0, .int 1 0, .str ⟨#[47, 99, 108, 97, 105, 109, 47, 99, 117, 116, 46, 112, 121]⟩ own] }
noncomputable def modName : List Nat := [60, 109, 111, 100, 117, 108, 101, 62]
noncomputable def tupO (vs : List Value) : Obj := { cls := .type "tuple", data := .seq vs.toArray }
noncomputable def fldO (vs : List Value) : Obj := { cls := .none, data := .fields vs.toArray }
noncomputable def code13 : Obj := codeObj modName 182 0 0 185 186 (.ref 11) (.ref 12) .none .none .none false
noncomputable def frame14 : Obj := { cls := .type "frame", slots := #[some (.ref 13), some (.ref 3), some (.ref 3), none, some (.str ⟨#[95, 95, 109, 97, 105, 110, 95, 95]⟩ 164), none, some (.ref 0)] }
noncomputable def wallFd : FuncData := match PySem.Challenge.pw_qw0067_01.main.body with
  | .FunctionDef n a b _ _ _ sc _ _ _ :: _ => { name := n, qualname := n, params := a, body := .stmts b, scope := sc, globals := 3, closure := [], defaults := .none, kwdefaults := .none, pyModule := .str ⟨#[95, 95, 109, 97, 105, 110, 95, 95]⟩ 164, code := .ref 20 }
  | _ => default
noncomputable def hexU (n : Nat) : Nat := if n < 10 then 48 + n else 55 + n
noncomputable def addEs (o : Obj) (es : List DictEntry) : Obj := { o with data := match o.data with | .dict a n => .dict (a ++ es.toArray) (n + es.length) | d => d }
noncomputable def stB (P : Params) : Nat → Obj
  | 0 => boot_o_0 P | 1 => boot_o_1 P | 2 => boot_o_2 P | 3 => boot_o_3 P | 4 => boot_o_4 P | 5 => boot_o_5 P | 6 => boot_o_6 P | 7 => boot_o_7 P | 8 => boot_o_8 P | 9 => boot_o_9 P | 10 => boot_o_10 P
  | 11 => tupO [] | 12 => fldO [] | 13 => code13 | _ => frame14
noncomputable def st3 (P : Params) : Nat → Obj
  | 3 => addEs (boot_o_3 P) [en P [95, 119, 97, 108, 108] 193 (.ref 21), en P [67, 82, 76, 70] 195 (.str ⟨#[13, 10]⟩ 194), en P [78, 76] 197 (.str ⟨#[10]⟩ 196), en P [95, 81, 85, 79, 80, 82, 73, 95, 77, 65, 80] 1225 (.ref 24)]
  | 12 => fldO [.int 1 0, .int 0 0, .ref 20] | 15 => tupO [] | 16 => fldO [] | 17 => tupO [.str ⟨#[107]⟩ 190] | 18 => tupO []
  | 19 => { cls := .none, data := .func { wallFd with globals := 0, pyModule := .none, code := .none } }
  | 20 => codeObj [95, 119, 97, 108, 108] 187 1 3 191 192 (.ref 15) (.ref 16) (.ref 17) (.ref 18) (.ref 19) true
  | 21 => { cls := .type "function", data := .func wallFd }
  | 22 => { cls := .type "range", data := .fields #[.int 0 199, .int 256 198, .int 1 200] }
  | 23 => { cls := .type "range_iterator", data := .fields #[.int 256 0, .int 0 0, .int 1 0] }
  | 24 => { cls := .type "list", data := .seq ((List.range 256).map fun i => .str ⟨#[61, hexU (i / 16), hexU (i % 16)]⟩ (204 + 4 * i)).toArray 256 }
  | 25 => { cls := .type "dict", data := .dict #[] 2 }
  | 26 => tupO []
  | 27 => { cls := .type "StopIteration", data := .fields #[.ref 26, .none, .none, .none, .bool false, .none] }
  | n => stB P n
noncomputable def tr15 (o : Nat → Obj) : BT := (.node (o 0) (.node (o 1) (.node (o 3) (.node (o 7) .nil .nil) (.node (o 11) .nil .nil)) (.node (o 5) (.node (o 9) .nil .nil) (.node (o 13) .nil .nil))) (.node (o 2) (.node (o 4) (.node (o 8) .nil .nil) (.node (o 12) .nil .nil)) (.node (o 6) (.node (o 10) .nil .nil) (.node (o 14) .nil .nil))))
noncomputable def tr28 (o : Nat → Obj) : BT := (.node (o 0) (.node (o 1) (.node (o 3) (.node (o 7) (.node (o 15) .nil .nil) (.node (o 23) .nil .nil)) (.node (o 11) (.node (o 19) .nil .nil) (.node (o 27) .nil .nil))) (.node (o 5) (.node (o 9) (.node (o 17) .nil .nil) (.node (o 25) .nil .nil)) (.node (o 13) (.node (o 21) .nil .nil) .nil))) (.node (o 2) (.node (o 4) (.node (o 8) (.node (o 16) .nil .nil) (.node (o 24) .nil .nil)) (.node (o 12) (.node (o 20) .nil .nil) .nil)) (.node (o 6) (.node (o 10) (.node (o 18) .nil .nil) (.node (o 26) .nil .nil)) (.node (o 14) (.node (o 22) .nil .nil) .nil))))
noncomputable def topB (p : Program) : List Stmt := behindTheImports p
noncomputable def topEnv (p : Program) : Env := { scope := p.main.scope, locals := mainNs, globals := mainNs, cells := [], code := .ref 13, frame := some 14 }
noncomputable def p0 : Pos := { line := 0, col := 0, endLine := 0, endCol := 0 }
noncomputable def p3 : Pos := { line := 6, col := 0, endLine := 6, endCol := 11 }
noncomputable def SB (w : World) (os : OsState) : SharedT := ⟨tr15 (stB w.params), 15, {}, #[], boot_drawn, 187, os⟩
noncomputable def S3 (w : World) (os : OsState) : SharedT := ⟨tr28 (st3 w.params), 28, {}, #[], boot_drawn, 1226, os⟩
theorem top_pre (w : World) (os : OsState) : topGo treeTable PySem.Challenge.pw_qw0067_01 w 11 (some (.ref 6)) 12 ⟨boot_heap w.params, #[], boot_drawn, boot_toks, os⟩ (topStub PySem.Challenge.pw_qw0067_01) = some ((SB w os).abs, ⟨denote treeTable (.body (topB PySem.Challenge.pw_qw0067_01) (topEnv PySem.Challenge.pw_qw0067_01)), .body (topB PySem.Challenge.pw_qw0067_01) (topEnv PySem.Challenge.pw_qw0067_01), p0, [topFrame p0]⟩) := by kernel_rfl
theorem top_block (w : World) (os : OsState) : segRun treeTable PySem.Challenge.pw_qw0067_01 w 11 (some (.ref 6)) 1 1 (SB w os).abs (blockOf (topB PySem.Challenge.pw_qw0067_01) (topEnv PySem.Challenge.pw_qw0067_01) (.body (topB PySem.Challenge.pw_qw0067_01) (topEnv PySem.Challenge.pw_qw0067_01)) p0 [topFrame p0]) = some (.next, (SB w os).abs, .body (topB PySem.Challenge.pw_qw0067_01) (topEnv PySem.Challenge.pw_qw0067_01), p0) := by kernel_rfl
end
end Mine

end
section
open PySem PySem.W PyProof.Rows
set_option Elab.async false
set_option maxRecDepth 100000
namespace Mine
noncomputable section
noncomputable def cutS : Str := ⟨#[47, 99, 108, 97, 105, 109, 47, 99, 117, 116, 46, 112, 121]⟩
noncomputable def codG (n : List Nat) (t : Nat) (r : List Value) : Obj := { cls := .type "code", data := .fields (.str ⟨n.toArray⟩ t :: .str ⟨n.toArray⟩ (t + 1) :: .str cutS (t + 2) :: r).toArray }
noncomputable def fnD (i : Nat) (dV pm code : Value) : FuncData := match PySem.Challenge.pw_qw0067_01.main.body.drop i with
  | .FunctionDef n a b _ _ _ sc _ _ _ :: _ => fnOf n n a b sc dV .none .none pm none code .none
  | _ => default
noncomputable def KF (P : Params) : Frag :=
  [(3, { cls := .type "dict", data := .dict #[en P [95, 95, 110, 97, 109, 101, 95, 95] 165 (.str ⟨#[108, 97, 119, 95, 113, 119, 48, 48, 54, 55, 95, 48, 49]⟩ 1969), en P [95, 95, 100, 111, 99, 95, 95] 166 (.none), en P [95, 95, 112, 97, 99, 107, 97, 103, 101, 95, 95] 167 (.none), en P [95, 95, 108, 111, 97, 100, 101, 114, 95, 95] 168 (.builtin "__main__.__loader__#opaque"), en P [95, 95, 115, 112, 101, 99, 95, 95] 169 (.none), en P [95, 95, 97, 110, 110, 111, 116, 97, 116, 105, 111, 110, 115, 95, 95] 170 (.ref 6), en P [95, 95, 98, 117, 105, 108, 116, 105, 110, 115, 95, 95] 171 (.ref 4), en P [95, 95, 102, 105, 108, 101, 95, 95] 173 (.str ⟨#[47, 99, 108, 97, 105, 109, 47, 99, 117, 116, 46, 112, 121]⟩ 172), en P [95, 95, 99, 97, 99, 104, 101, 100, 95, 95] 174 (.none), en P [95, 119, 97, 108, 108] 193 (.ref 21), en P [67, 82, 76, 70] 195 (.str ⟨#[13, 10]⟩ 194), en P [78, 76] 197 (.str ⟨#[10]⟩ 196), en P [95, 81, 85, 79, 80, 82, 73, 95, 77, 65, 80] 1225 (.ref 24), en P [95, 81, 85, 79, 80, 82, 73, 95, 72, 69, 65, 68, 69, 82, 95, 77, 65, 80] 1226 (.ref 29), en P [95, 81, 85, 79, 80, 82, 73, 95, 66, 79, 68, 89, 95, 77, 65, 80] 1227 (.ref 31), en P [97, 115, 99, 105, 105, 95, 108, 111, 119, 101, 114, 99, 97, 115, 101] 1229 (.str ⟨#[97, 98, 99, 100, 101, 102, 103, 104, 105, 106, 107, 108, 109, 110, 111, 112, 113, 114, 115, 116, 117, 118, 119, 120, 121, 122]⟩ 1228), en P [97, 115, 99, 105, 105, 95, 117, 112, 112, 101, 114, 99, 97, 115, 101] 1231 (.str ⟨#[65, 66, 67, 68, 69, 70, 71, 72, 73, 74, 75, 76, 77, 78, 79, 80, 81, 82, 83, 84, 85, 86, 87, 88, 89, 90]⟩ 1230), en P [97, 115, 99, 105, 105, 95, 108, 101, 116, 116, 101, 114, 115] 1233 (.str ⟨#[97, 98, 99, 100, 101, 102, 103, 104, 105, 106, 107, 108, 109, 110, 111, 112, 113, 114, 115, 116, 117, 118, 119, 120, 121, 122, 65, 66, 67, 68, 69, 70, 71, 72, 73, 74, 75, 76, 77, 78, 79, 80, 81, 82, 83, 84, 85, 86, 87, 88, 89, 90]⟩ 1232), en P [100, 105, 103, 105, 116, 115] 1235 (.str ⟨#[48, 49, 50, 51, 52, 53, 54, 55, 56, 57]⟩ 1234), en P [104, 101, 120, 100, 105, 103, 105, 116, 115] 1240 (.str ⟨#[48, 49, 50, 51, 52, 53, 54, 55, 56, 57, 97, 98, 99, 100, 101, 102, 65, 66, 67, 68, 69, 70]⟩ 1239), en P [117, 110, 113, 117, 111, 116, 101] 1746 (.ref 44), en P [113, 117, 111, 116, 101] 1753 (.ref 51), en P [95, 81, 85, 79, 80, 82, 73, 95, 66, 79, 68, 89, 95, 69, 78, 67, 79, 68, 69, 95, 77, 65, 80] 1754 (.ref 53), en P [98, 111, 100, 121, 95, 101, 110, 99, 111, 100, 101] 1781 (.ref 64), en P [100, 101, 99, 111, 100, 101] 1794 (.ref 72), en P [95, 105, 110, 105, 116, 105, 97, 108, 95, 109, 105, 115, 115, 105, 110, 103] 1797 (.ref 73), en P [114, 101, 100, 117, 99, 101] 1809 (.ref 81), en P [95, 112, 108, 97, 105, 110, 95, 110, 97, 109, 101] 1820 (.ref 88), en P [65, 66, 67, 77, 101, 116, 97] 1846 (.ref 105), en P [95, 65, 66, 67, 76, 105, 107, 101] 1889 (.ref 138), en P [95, 97, 98, 99, 95, 112, 108, 97, 105, 110, 95, 109, 101, 116, 97] 1896 (.ref 147), en P [102, 115, 112, 97, 116, 104] 1908 (.ref 154), en P [95, 99, 104, 101, 99, 107, 95, 97, 114, 103, 95, 116, 121, 112, 101, 115] 1921 (.ref 161), en P [95, 103, 101, 116, 95, 115, 101, 112] 1930 (.ref 168), en P [106, 111, 105, 110] 1941 (.ref 175), en P [115, 112, 108, 105, 116] 1952 (.ref 182), en P [100, 105, 114, 110, 97, 109, 101] 1962 (.ref 189), en P [99, 111, 109, 109, 111, 110, 112, 97, 116, 104] 1968 (.ref 194), en P [95, 108, 97, 119, 95, 112, 108, 97, 99, 101, 115] 1983 (.ref 201), en P [95, 108, 97, 119, 95, 114, 111, 119, 115] 1995 (.ref 208), en P [95, 108, 97, 119, 95, 100, 114, 101, 115, 115, 101, 100] 2002 (.ref 215), en P [95, 108, 97, 119, 95, 115, 112, 108, 105, 116] 2013 (.ref 222), en P [95, 108, 97, 119, 95, 115, 116, 101, 112] 2021 (.ref 229), en P [95, 108, 97, 119, 95, 110, 111, 100, 101, 115] 2031 (.ref 236), en P [95, 108, 97, 119, 95, 97, 108, 105, 107, 101] 2040 (.ref 243), en P [108, 97, 119] 2046 (.ref 248)] 48 }),
    (44, { cls := .type "function", data := .func (fnD 15 (.none) (.str ⟨#[99, 112, 121, 51, 49, 51, 46, 101, 109, 97, 105, 108, 46, 113, 117, 111, 112, 114, 105, 109, 105, 109, 101]⟩ 1241) (.ref 43)) }),
    (43, codG [117, 110, 113, 117, 111, 116, 101] 1740 [.int 20 0, .int 1 0, .int 0 0, .int 0 0, .int 3 0, .ref 38, .bool true, .int 181 0, .ref 39, .none, .ref 40, .ref 41, .ref 42, .int 1744 0, .int 20 0, .str cutS 1745]),
    (53, { cls := .type "list", data := .seq (([([61, 48, 48], 204), ([61, 48, 49], 208), ([61, 48, 50], 212), ([61, 48, 51], 216), ([61, 48, 52], 220), ([61, 48, 53], 224), ([61, 48, 54], 228), ([61, 48, 55], 232), ([61, 48, 56], 236), ([9], 1739), ([10], 1761), ([61, 48, 66], 248), ([61, 48, 67], 252), ([13], 1758), ([61, 48, 69], 260), ([61, 48, 70], 264), ([61, 49, 48], 268), ([61, 49, 49], 272), ([61, 49, 50], 276), ([61, 49, 51], 280), ([61, 49, 52], 284), ([61, 49, 53], 288), ([61, 49, 54], 292), ([61, 49, 55], 296), ([61, 49, 56], 300), ([61, 49, 57], 304), ([61, 49, 65], 308), ([61, 49, 66], 312), ([61, 49, 67], 316), ([61, 49, 68], 320), ([61, 49, 69], 324), ([61, 49, 70], 328), ([32], 1457), ([33], 1460), ([34], 1463), ([35], 1466), ([36], 1469), ([37], 1472), ([38], 1475), ([39], 1478), ([40], 1481), ([41], 1484), ([42], 1487), ([43], 1490), ([44], 1493), ([45], 1496), ([46], 1499), ([47], 1502), ([48], 1505), ([49], 1508), ([50], 1511), ([51], 1514), ([52], 1517), ([53], 1520), ([54], 1523), ([55], 1526), ([56], 1529), ([57], 1532), ([58], 1535), ([59], 1538), ([60], 1541), ([61, 51, 68], 448), ([62], 1544), ([63], 1547), ([64], 1550), ([65], 1553), ([66], 1556), ([67], 1559), ([68], 1562), ([69], 1565), ([70], 1568), ([71], 1571), ([72], 1574), ([73], 1577), ([74], 1580), ([75], 1583), ([76], 1586), ([77], 1589), ([78], 1592), ([79], 1595), ([80], 1598), ([81], 1601), ([82], 1604), ([83], 1607), ([84], 1610), ([85], 1613), ([86], 1616), ([87], 1619), ([88], 1622), ([89], 1625), ([90], 1628), ([91], 1631), ([92], 1634), ([93], 1637), ([94], 1640), ([95], 1643), ([96], 1646), ([97], 1649), ([98], 1652), ([99], 1655), ([100], 1658), ([101], 1661), ([102], 1664), ([103], 1667), ([104], 1670), ([105], 1673), ([106], 1676), ([107], 1679), ([108], 1682), ([109], 1685), ([110], 1688), ([111], 1691), ([112], 1694), ([113], 1697), ([114], 1700), ([115], 1703), ([116], 1706), ([117], 1709), ([118], 1712), ([119], 1715), ([120], 1718), ([121], 1721), ([122], 1724), ([123], 1727), ([124], 1730), ([125], 1733), ([126], 1736), ([61, 55, 70], 712), ([61, 56, 48], 716), ([61, 56, 49], 720), ([61, 56, 50], 724), ([61, 56, 51], 728), ([61, 56, 52], 732), ([61, 56, 53], 736), ([61, 56, 54], 740), ([61, 56, 55], 744), ([61, 56, 56], 748), ([61, 56, 57], 752), ([61, 56, 65], 756), ([61, 56, 66], 760), ([61, 56, 67], 764), ([61, 56, 68], 768), ([61, 56, 69], 772), ([61, 56, 70], 776), ([61, 57, 48], 780), ([61, 57, 49], 784), ([61, 57, 50], 788), ([61, 57, 51], 792), ([61, 57, 52], 796), ([61, 57, 53], 800), ([61, 57, 54], 804), ([61, 57, 55], 808), ([61, 57, 56], 812), ([61, 57, 57], 816), ([61, 57, 65], 820), ([61, 57, 66], 824), ([61, 57, 67], 828), ([61, 57, 68], 832), ([61, 57, 69], 836), ([61, 57, 70], 840), ([61, 65, 48], 844), ([61, 65, 49], 848), ([61, 65, 50], 852), ([61, 65, 51], 856), ([61, 65, 52], 860), ([61, 65, 53], 864), ([61, 65, 54], 868), ([61, 65, 55], 872), ([61, 65, 56], 876), ([61, 65, 57], 880), ([61, 65, 65], 884), ([61, 65, 66], 888), ([61, 65, 67], 892), ([61, 65, 68], 896), ([61, 65, 69], 900), ([61, 65, 70], 904), ([61, 66, 48], 908), ([61, 66, 49], 912), ([61, 66, 50], 916), ([61, 66, 51], 920), ([61, 66, 52], 924), ([61, 66, 53], 928), ([61, 66, 54], 932), ([61, 66, 55], 936), ([61, 66, 56], 940), ([61, 66, 57], 944), ([61, 66, 65], 948), ([61, 66, 66], 952), ([61, 66, 67], 956), ([61, 66, 68], 960), ([61, 66, 69], 964), ([61, 66, 70], 968), ([61, 67, 48], 972), ([61, 67, 49], 976), ([61, 67, 50], 980), ([61, 67, 51], 984), ([61, 67, 52], 988), ([61, 67, 53], 992), ([61, 67, 54], 996), ([61, 67, 55], 1000), ([61, 67, 56], 1004), ([61, 67, 57], 1008), ([61, 67, 65], 1012), ([61, 67, 66], 1016), ([61, 67, 67], 1020), ([61, 67, 68], 1024), ([61, 67, 69], 1028), ([61, 67, 70], 1032), ([61, 68, 48], 1036), ([61, 68, 49], 1040), ([61, 68, 50], 1044), ([61, 68, 51], 1048), ([61, 68, 52], 1052), ([61, 68, 53], 1056), ([61, 68, 54], 1060), ([61, 68, 55], 1064), ([61, 68, 56], 1068), ([61, 68, 57], 1072), ([61, 68, 65], 1076), ([61, 68, 66], 1080), ([61, 68, 67], 1084), ([61, 68, 68], 1088), ([61, 68, 69], 1092), ([61, 68, 70], 1096), ([61, 69, 48], 1100), ([61, 69, 49], 1104), ([61, 69, 50], 1108), ([61, 69, 51], 1112), ([61, 69, 52], 1116), ([61, 69, 53], 1120), ([61, 69, 54], 1124), ([61, 69, 55], 1128), ([61, 69, 56], 1132), ([61, 69, 57], 1136), ([61, 69, 65], 1140), ([61, 69, 66], 1144), ([61, 69, 67], 1148), ([61, 69, 68], 1152), ([61, 69, 69], 1156), ([61, 69, 70], 1160), ([61, 70, 48], 1164), ([61, 70, 49], 1168), ([61, 70, 50], 1172), ([61, 70, 51], 1176), ([61, 70, 52], 1180), ([61, 70, 53], 1184), ([61, 70, 54], 1188), ([61, 70, 55], 1192), ([61, 70, 56], 1196), ([61, 70, 57], 1200), ([61, 70, 65], 1204), ([61, 70, 66], 1208), ([61, 70, 67], 1212), ([61, 70, 68], 1216), ([61, 70, 69], 1220), ([61, 70, 70], 1224)] : List (List Nat × Nat)).map fun p => .str ⟨p.1.toArray⟩ p.2).toArray 0 }),
    (57, { cls := .type "tuple", data := .seq #[.int 76 1762, .str ⟨#[10]⟩ 196] 0 }),
    (64, { cls := .type "function", data := .func (fnD 20 (.ref 57) (.str ⟨#[99, 112, 121, 51, 49, 51, 46, 101, 109, 97, 105, 108, 46, 113, 117, 111, 112, 114, 105, 109, 105, 109, 101]⟩ 1241) (.ref 63)) }),
    (63, codG [98, 111, 100, 121, 95, 101, 110, 99, 111, 100, 101] 1763 [.int 28 0, .int 3 0, .int 0 0, .int 0 0, .int 3 0, .ref 58, .bool true, .int 181 0, .ref 59, .none, .ref 60, .ref 61, .ref 62, .int 1779 0, .int 28 0, .str cutS 1780]),
    (65, { cls := .type "tuple", data := .seq #[.str ⟨#[10]⟩ 196] 0 }),
    (72, { cls := .type "function", data := .func (fnD 21 (.ref 65) (.str ⟨#[99, 112, 121, 51, 49, 51, 46, 101, 109, 97, 105, 108, 46, 113, 117, 111, 112, 114, 105, 109, 105, 109, 101]⟩ 1241) (.ref 71)) }),
    (71, codG [100, 101, 99, 111, 100, 101] 1782 [.int 66 0, .int 2 0, .int 0 0, .int 0 0, .int 3 0, .ref 66, .bool true, .int 181 0, .ref 67, .none, .ref 68, .ref 69, .ref 70, .int 1792 0, .int 66 0, .str cutS 1793]),
    (73, { cls := .type "object", data := .plain }),
    (74, { cls := .type "tuple", data := .seq #[.ref 73] 0 }),
    (81, { cls := .type "function", data := .func (fnD 24 (.ref 74) (.str ⟨#[99, 112, 121, 51, 49, 51, 46, 102, 117, 110, 99, 116, 111, 111, 108, 115]⟩ 1795) (.ref 80)) }),
    (80, codG [114, 101, 100, 117, 99, 101] 1798 [.int 98 0, .int 3 0, .int 0 0, .int 0 0, .int 3 0, .ref 75, .bool true, .int 181 0, .ref 76, .none, .ref 77, .ref 78, .ref 79, .int 1807 0, .int 98 0, .str cutS 1808]),
    (154, { cls := .type "function", data := .func (fnD 33 (.none) (.str ⟨#[111, 115]⟩ 1897) (.ref 153)) }),
    (153, codG [102, 115, 112, 97, 116, 104] 1899 [.int 141 0, .int 1 0, .int 0 0, .int 0 0, .int 3 0, .ref 148, .bool true, .int 181 0, .ref 149, .none, .ref 150, .ref 151, .ref 152, .int 1906 0, .int 141 0, .str cutS 1907]),
    (168, { cls := .type "function", data := .func (fnD 37 (.none) (.str ⟨#[99, 112, 121, 51, 49, 51, 46, 112, 111, 115, 105, 120, 112, 97, 116, 104]⟩ 1922) (.ref 167)) }),
    (167, codG [95, 103, 101, 116, 95, 115, 101, 112] 1924 [.int 170 0, .int 1 0, .int 0 0, .int 0 0, .int 3 0, .ref 162, .bool true, .int 181 0, .ref 163, .none, .ref 164, .ref 165, .ref 166, .int 1928 0, .int 170 0, .str cutS 1929]),
    (175, { cls := .type "function", data := .func (fnD 38 (.none) (.str ⟨#[99, 112, 121, 51, 49, 51, 46, 112, 111, 115, 105, 120, 112, 97, 116, 104]⟩ 1922) (.ref 174)) }),
    (174, codG [106, 111, 105, 110] 1931 [.int 175 0, .int 1 0, .int 0 0, .int 0 0, .int 7 0, .ref 169, .bool true, .int 181 0, .ref 170, .none, .ref 171, .ref 172, .ref 173, .int 1939 0, .int 175 0, .str cutS 1940]),
    (182, { cls := .type "function", data := .func (fnD 39 (.none) (.str ⟨#[99, 112, 121, 51, 49, 51, 46, 112, 111, 115, 105, 120, 112, 97, 116, 104]⟩ 1922) (.ref 181)) }),
    (181, codG [115, 112, 108, 105, 116] 1942 [.int 192 0, .int 1 0, .int 0 0, .int 0 0, .int 3 0, .ref 176, .bool true, .int 181 0, .ref 177, .none, .ref 178, .ref 179, .ref 180, .int 1950 0, .int 192 0, .str cutS 1951]),
    (189, { cls := .type "function", data := .func (fnD 40 (.none) (.str ⟨#[99, 112, 121, 51, 49, 51, 46, 112, 111, 115, 105, 120, 112, 97, 116, 104]⟩ 1922) (.ref 188)) }),
    (188, codG [100, 105, 114, 110, 97, 109, 101] 1953 [.int 200 0, .int 1 0, .int 0 0, .int 0 0, .int 3 0, .ref 183, .bool true, .int 181 0, .ref 184, .none, .ref 185, .ref 186, .ref 187, .int 1960 0, .int 200 0, .str cutS 1961]),
    (194, { cls := .type "function", data := .func (fnD 41 (.none) (.str ⟨#[99, 112, 121, 51, 49, 51, 46, 112, 111, 115, 105, 120, 112, 97, 116, 104]⟩ 1922) (.ref 193)) }),
    (193, codG [99, 111, 109, 109, 111, 110, 112, 97, 116, 104] 1963 [.int 208 0, .int 1 0, .int 0 0, .int 0 0, .int 3 0, .ref 190, .bool true, .int 181 0, .ref 191, .none, .none, .none, .ref 192, .int 1966 0, .int 208 0, .str cutS 1967]),
    (201, { cls := .type "function", data := .func (fnD 43 (.none) (.str ⟨#[108, 97, 119, 95, 113, 119, 48, 48, 54, 55, 95, 48, 49]⟩ 1969) (.ref 200)) }),
    (200, codG [95, 108, 97, 119, 95, 112, 108, 97, 99, 101, 115] 1971 [.int 238 0, .int 1 0, .int 0 0, .int 0 0, .int 3 0, .ref 195, .bool true, .int 181 0, .ref 196, .none, .ref 197, .ref 198, .ref 199, .int 1981 0, .int 238 0, .str cutS 1982]),
    (208, { cls := .type "function", data := .func (fnD 44 (.none) (.str ⟨#[108, 97, 119, 95, 113, 119, 48, 48, 54, 55, 95, 48, 49]⟩ 1969) (.ref 207)) }),
    (207, codG [95, 108, 97, 119, 95, 114, 111, 119, 115] 1984 [.int 254 0, .int 2 0, .int 0 0, .int 0 0, .int 3 0, .ref 202, .bool true, .int 181 0, .ref 203, .none, .ref 204, .ref 205, .ref 206, .int 1993 0, .int 254 0, .str cutS 1994]),
    (215, { cls := .type "function", data := .func (fnD 45 (.none) (.str ⟨#[108, 97, 119, 95, 113, 119, 48, 48, 54, 55, 95, 48, 49]⟩ 1969) (.ref 214)) }),
    (214, codG [95, 108, 97, 119, 95, 100, 114, 101, 115, 115, 101, 100] 1996 [.int 268 0, .int 1 0, .int 0 0, .int 0 0, .int 3 0, .ref 209, .bool true, .int 181 0, .ref 210, .none, .ref 211, .ref 212, .ref 213, .int 2000 0, .int 268 0, .str cutS 2001]),
    (222, { cls := .type "function", data := .func (fnD 46 (.none) (.str ⟨#[108, 97, 119, 95, 113, 119, 48, 48, 54, 55, 95, 48, 49]⟩ 1969) (.ref 221)) }),
    (221, codG [95, 108, 97, 119, 95, 115, 112, 108, 105, 116] 2003 [.int 270 0, .int 2 0, .int 0 0, .int 0 0, .int 3 0, .ref 216, .bool true, .int 181 0, .ref 217, .none, .ref 218, .ref 219, .ref 220, .int 2011 0, .int 270 0, .str cutS 2012]),
    (229, { cls := .type "function", data := .func (fnD 47 (.none) (.str ⟨#[108, 97, 119, 95, 113, 119, 48, 48, 54, 55, 95, 48, 49]⟩ 1969) (.ref 228)) }),
    (228, codG [95, 108, 97, 119, 95, 115, 116, 101, 112] 2014 [.int 276 0, .int 2 0, .int 0 0, .int 0 0, .int 3 0, .ref 223, .bool true, .int 181 0, .ref 224, .none, .ref 225, .ref 226, .ref 227, .int 2019 0, .int 276 0, .str cutS 2020]),
    (236, { cls := .type "function", data := .func (fnD 48 (.none) (.str ⟨#[108, 97, 119, 95, 113, 119, 48, 48, 54, 55, 95, 48, 49]⟩ 1969) (.ref 235)) }),
    (235, codG [95, 108, 97, 119, 95, 110, 111, 100, 101, 115] 2022 [.int 280 0, .int 2 0, .int 0 0, .int 0 0, .int 3 0, .ref 230, .bool true, .int 181 0, .ref 231, .none, .ref 232, .ref 233, .ref 234, .int 2029 0, .int 280 0, .str cutS 2030]),
    (243, { cls := .type "function", data := .func (fnD 49 (.none) (.str ⟨#[108, 97, 119, 95, 113, 119, 48, 48, 54, 55, 95, 48, 49]⟩ 1969) (.ref 242)) }),
    (242, codG [95, 108, 97, 119, 95, 97, 108, 105, 107, 101] 2032 [.int 286 0, .int 2 0, .int 0 0, .int 0 0, .int 3 0, .ref 237, .bool true, .int 181 0, .ref 238, .none, .ref 239, .ref 240, .ref 241, .int 2038 0, .int 286 0, .str cutS 2039]),
    (248, { cls := .type "function", data := .func (fnD 50 (.none) (.str ⟨#[108, 97, 119, 95, 113, 119, 48, 48, 54, 55, 95, 48, 49]⟩ 1969) (.ref 247)) }),
    (247, codG [108, 97, 119] 2041 [.int 291 0, .int 1 0, .int 0 0, .int 0 0, .int 3 0, .ref 244, .bool true, .int 181 0, .ref 245, .none, .none, .none, .ref 246, .int 2044 0, .int 291 0, .str cutS 2045])]
noncomputable def KA : List Addr := [3, 44, 43, 53, 57, 64, 63, 65, 72, 71, 73, 74, 81, 80, 154, 153, 168, 167, 175, 174, 182, 181, 189, 188, 194, 193, 201, 200, 208, 207, 215, 214, 222, 221, 229, 228, 236, 235, 243, 242, 248, 247]

noncomputable def viewL (p : Program) : Program := PySem.W.view p [50]
noncomputable def looseL : List Str := ([[95, 119, 97, 108, 108], [67, 82, 76, 70], [78, 76], [95, 81, 85, 79, 80, 82, 73, 95, 77, 65, 80], [95, 81, 85, 79, 80, 82, 73, 95, 72, 69, 65, 68, 69, 82, 95, 77, 65, 80], [95, 81, 85, 79, 80, 82, 73, 95, 66, 79, 68, 89, 95, 77, 65, 80], [97, 115, 99, 105, 105, 95, 108, 111, 119, 101, 114, 99, 97, 115, 101], [97, 115, 99, 105, 105, 95, 117, 112, 112, 101, 114, 99, 97, 115, 101], [97, 115, 99, 105, 105, 95, 108, 101, 116, 116, 101, 114, 115], [100, 105, 103, 105, 116, 115], [104, 101, 120, 100, 105, 103, 105, 116, 115], [117, 110, 113, 117, 111, 116, 101], [113, 117, 111, 116, 101], [95, 81, 85, 79, 80, 82, 73, 95, 66, 79, 68, 89, 95, 69, 78, 67, 79, 68, 69, 95, 77, 65, 80], [98, 111, 100, 121, 95, 101, 110, 99, 111, 100, 101], [100, 101, 99, 111, 100, 101], [95, 105, 110, 105, 116, 105, 97, 108, 95, 109, 105, 115, 115, 105, 110, 103], [114, 101, 100, 117, 99, 101], [95, 112, 108, 97, 105, 110, 95, 110, 97, 109, 101], [65, 66, 67, 77, 101, 116, 97], [95, 65, 66, 67, 76, 105, 107, 101], [95, 97, 98, 99, 95, 112, 108, 97, 105, 110, 95, 109, 101, 116, 97], [102, 115, 112, 97, 116, 104], [95, 99, 104, 101, 99, 107, 95, 97, 114, 103, 95, 116, 121, 112, 101, 115], [95, 103, 101, 116, 95, 115, 101, 112], [106, 111, 105, 110], [115, 112, 108, 105, 116], [100, 105, 114, 110, 97, 109, 101], [99, 111, 109, 109, 111, 110, 112, 97, 116, 104], [95, 108, 97, 119, 95, 112, 108, 97, 99, 101, 115], [95, 108, 97, 119, 95, 114, 111, 119, 115], [95, 108, 97, 119, 95, 100, 114, 101, 115, 115, 101, 100], [95, 108, 97, 119, 95, 115, 112, 108, 105, 116], [95, 108, 97, 119, 95, 115, 116, 101, 112], [95, 108, 97, 119, 95, 110, 111, 100, 101, 115], [95, 108, 97, 119, 95, 97, 108, 105, 107, 101]] : List (List Nat)).map fun l => ⟨l.toArray⟩
noncomputable def pE : Pos := { line := 291, col := 0, endLine := 319, endCol := 15 }
noncomputable def lookT (p : Program) (w : World) (s : SharedT) := ((staticsOk (importedModules p.main.body) (boot_heap w.params) s.abs.heap && namesBound p s.abs.heap && gensDone s.abs && laidKept (boot_heap w.params) s.abs.heap), openSeen (viewL p) looseL (importedModules p.main.body) (fun s => xlAt (viewL p) [] s && recOk [] s) true s.abs, KA.map s.abs.heap.get?)
noncomputable def goodT (p : Program) (w : World) := (true, openGood (viewL p) looseL, (KF w.params).map fun q => some q.2)
noncomputable def PB (w : World) : Prop := ∀ os, (PySem.W.Fast.tw10110043849684766642 PySem.W.Fast.tw14364793385576792824 PySem.Challenge.pw_qw0067_01 w 11 (some (.ref 6)) 1 10000 (S3 w os) (piecesOf ((topB PySem.Challenge.pw_qw0067_01).drop 4) (topEnv PySem.Challenge.pw_qw0067_01) (.body (topB PySem.Challenge.pw_qw0067_01) (topEnv PySem.Challenge.pw_qw0067_01)) p3 [topFrame p0])).map (fun r => (r.1, r.2.2.1, r.2.2.2, lookT PySem.Challenge.pw_qw0067_01 w r.2.1)) = some (.next, .body (topB PySem.Challenge.pw_qw0067_01) (topEnv PySem.Challenge.pw_qw0067_01), pE, goodT PySem.Challenge.pw_qw0067_01 w)
noncomputable def PA (w : World) : Prop := ∀ os, PySem.W.Fast.tw10110043849684766642 PySem.W.Fast.tw14364793385576792824 PySem.Challenge.pw_qw0067_01 w 11 (some (.ref 6)) 1 9600 (SB w os) (piecesOf ((topB PySem.Challenge.pw_qw0067_01).take 4) (topEnv PySem.Challenge.pw_qw0067_01) (.body (topB PySem.Challenge.pw_qw0067_01) (topEnv PySem.Challenge.pw_qw0067_01)) p0 [topFrame p0]) = some (.next, S3 w os, .body (topB PySem.Challenge.pw_qw0067_01) (topEnv PySem.Challenge.pw_qw0067_01), p3)
end
end Mine

end
section
open PySem PySem.W PyProof.Rows
set_option Elab.async false
set_option maxRecDepth 100000
namespace Mine
theorem PB_f (w : World) : PB (w.withFollow "special-get-raises" false) := fun os => by kernel_rfl
theorem PB_t (w : World) : PB (w.withFollow "special-get-raises" true) := fun os => by kernel_rfl
theorem PB_all : ∀ w, PB w := byRow2 "special-get-raises" (P := PB) PB_f PB_t
theorem PA_ff (w : World) : PA ((w.withFollow "comprehension-iter-twice" false).withFollow "special-get-raises" false) := fun os => by kernel_rfl
theorem PA_ft (w : World) : PA ((w.withFollow "comprehension-iter-twice" false).withFollow "special-get-raises" true) := fun os => by kernel_rfl
theorem PA_tf (w : World) : PA ((w.withFollow "comprehension-iter-twice" true).withFollow "special-get-raises" false) := fun os => by kernel_rfl
theorem PA_tt (w : World) : PA ((w.withFollow "comprehension-iter-twice" true).withFollow "special-get-raises" true) := fun os => by kernel_rfl
theorem PA_all : ∀ w, PA w := byRow2 "special-get-raises" (P := PA) (byRow2 "comprehension-iter-twice" (P := fun w => PA (w.withFollow "special-get-raises" false)) PA_ff PA_tf) (byRow2 "comprehension-iter-twice" (P := fun w => PA (w.withFollow "special-get-raises" true)) PA_ft PA_tt)
end Mine

end
section
open PySem PySem.W PyProof.Rows
set_option Elab.async false
set_option maxRecDepth 100000
namespace Mine
theorem top_fin (p : Program) (w : World) (s : Shared) (c : Code) (q q' : Pos) (a : Option Value) : topRun treeTable p w 11 a 2 s ⟨doneF .next, c, q, [topFrame q']⟩ = some s := rfl
theorem top_left : LeftO PySem.Challenge.pw_qw0067_01 (viewL PySem.Challenge.pw_qw0067_01) looseL (fun s => xlAt (viewL PySem.Challenge.pw_qw0067_01) [] s && recOk [] s) (fun s => KA.map s.heap.get?) (fun w => (KF w.params).map fun q => some q.2) 40000 :=
  LeftO.of_run (H₀ := boot_heap) (gs₀ := #[]) (d₀ := boot_drawn) (k₀ := boot_toks) (m₀ := 11) (ann := some (.ref 6)) (M := 12 + (1 + (9600 + (10000 + 2)))) top_open (fun w => top_size w) (by decide) fun w os => by
    have A := PA_all w os
    have B := PB_all w os
    rw [← PySem.W.Fast.te14364793385576792824, ← PySem.W.Fast.te10110043849684766642] at A B
    obtain ⟨⟨f, s', c, q⟩, hr, e⟩ := Option.map_eq_some_iff.mp B
    injection e with e1 e2
    injection e2 with e2 e3
    injection e3 with e3 e4
    dsimp only at e1 e2 e3 e4
    subst e1 e2 e3
    have r := go_top (top_pre w os) (piece_block (top_block w os) (by
      have := piece_app (segRun_of A) (piece_app (rest := []) (segRun_of hr) (piece_nil (top_fin _ w s'.abs _ _ _ _)))
      rw [List.append_nil, List.take_append_drop] at this
      exact this))
    injection e4 with l1 l2
    injection l2 with l2 l3
    exact ⟨s'.abs, r, l1, l2, l3⟩
theorem KA_eq (P : Params) : KA = (KF P).map (·.1) := by kernel_rfl
noncomputable abbrev HK : Hook := kHook KF KA KA_eq
theorem said_ok : PySem.Challenge.rw_qw0067_01.wellSaid = true := by kernel_rfl
end Mine

end
section
open PySem PySem.W PyProof.Rows
set_option Elab.async false
set_option autoImplicit false
set_option linter.unusedVariables false
namespace Mine

/-! the layer: frozen base, own objects, locals -/
noncomputable abbrev Ext (h h' : Heap) : Prop := ∀ b o, h.get? b = some o → h'.get? b = some o
theorem Ext.refl (h : Heap) : Ext h h := fun _ _ e => e
theorem Ext.trans {a b c : Heap} (x : Ext a b) (y : Ext b c) : Ext a c := fun _ _ e => y _ _ (x _ _ e)

noncomputable def restr (h : Heap) (P : Addr → Bool) : Heap := ⟨h.objs.mapIdx fun i o => if P i then o else { cls := .none, data := .freed }, h.life⟩
theorem restr_get (h : Heap) (P : Addr → Bool) (i : Addr) : (restr h P).get? i = if P i then h.get? i else none := by
  unfold restr Heap.get?
  simp only [Array.getElem?_mapIdx]
  cases hx : h.objs[i]? with
  | none => cases P i <;> simp
  | some o =>
    cases hp : P i with
    | true => simp
    | false => simp

structure Bs (n : Nat) (B B' : Heap) : Prop where
  ext : Ext B B'
  new : ∀ b o, B'.get? b = some o → B.get? b = some o ∨ n ≤ b
theorem Bs.refl (n : Nat) (B : Heap) : Bs n B B := ⟨Ext.refl _, fun _ _ e => .inl e⟩
theorem Bs.trans {n : Nat} {a b c : Heap} (x : Bs n a b) (y : Bs n b c) : Bs n a c :=
  ⟨x.ext.trans y.ext, fun p o e => (y.new p o e).elim (fun q => x.new p o q) .inr⟩
theorem Bs.low {n k : Nat} {B B' : Heap} (x : Bs k B B') (h : n ≤ k) : Bs n B B' :=
  ⟨x.ext, fun b o e => (x.new b o e).imp id (Nat.le_trans h)⟩
theorem Bs.none {n : Nat} {B B' : Heap} {b : Addr} (x : Bs n B B') (h : B.get? b = none) (hb : b < n) : B'.get? b = none := by
  cases q : B'.get? b with
  | none => rfl
  | some o => rcases x.new b o q with e | e
              · rw [h] at e; cases e
              · exact absurd hb (Nat.not_lt.mpr e)

theorem bs_none {n : Nat} {B B' : Heap} {b : Addr} (x : Bs n B B') (h : B'.get? b = none) : B.get? b = none := by
  cases q : B.get? b with
  | none => rfl
  | some o => rw [x.ext _ _ q] at h; cases h

structure Gl (K : Frag) (h : Heap) : Prop where
  k : K.In h
  g : ∃ mg, h.Ns mainGlobals mg
  b : ∃ mb, h.Ns builtinsNs mb ∧ ∀ x : Str, x ≠ "__name__" → mb x = bootBuiltins x
  lim : h.NoLimit
  seer : h.NoSeer
theorem Gl.ext {K : Frag} {h h' : Heap} (g : Gl K h) (x : Ext h h') : Gl K h' :=
  ⟨g.k.keeps x, let ⟨mg, e⟩ := g.g; ⟨mg, e.keeps x⟩, let ⟨mb, e, r⟩ := g.b; ⟨mb, e.keeps x, r⟩, g.lim.keeps x, g.seer.keeps x⟩

noncomputable abbrev KK (w : World) : Frag := KF w.params
structure Cx where
  w : World
  A : Around
  G : Heap
  s₀ : Shared
  X : Addr → Prop
  env : Env
noncomputable abbrev Cx.n (c : Cx) : Nat := c.s₀.heap.objs.size
noncomputable abbrev Cx.L (c : Cx) : Addr := c.env.locals
noncomputable abbrev Md (w : World) : Model := model PySem.Challenge.pw_qw0067_01 w
noncomputable abbrev Lo := List (Str × Value)
noncomputable abbrev Ow := List (Addr × (Obj → Prop))

structure Fm (c : Cx) (B : Heap) (m : Lo) (own : Ow) (s : Shared) : Prop where
  gg : Gl (KK c.w) c.G
  gx : Ext c.G B
  gn : c.G.objs.size ≤ c.n
  keep : ∀ b o, ¬ c.X b → c.s₀.heap.get? b = some o → s.heap.get? b = some o
  size : c.n ≤ s.heap.objs.size
  frz : Ext B s.heap
  ns : s.heap.Ns c.L (fun x => m.lookup x)
  ow : ∀ p ∈ own, ∃ o, s.heap.get? p.1 = some o ∧ p.2 o
  bL : B.get? c.L = none
  lL : c.n ≤ c.L
  bown : ∀ p ∈ own, B.get? p.1 = none ∧ p.1 ≠ c.L ∧ (c.n ≤ p.1 ∨ c.X p.1)
  nd : (own.map (·.1)).Nodup
  gens : s.gens = c.s₀.gens
  os : s.os = c.s₀.os
  tk : 1 ≤ s.toks

theorem Fm.gl {c : Cx} {B : Heap} {m : Lo} {own : Ow} {s : Shared} (F : Fm c B m own s) : Gl (KK c.w) B := F.gg.ext F.gx
/-- only toks and draws change -/
theorem Fm.still {c : Cx} {B : Heap} {m : Lo} {own : Ow} {s s' : Shared} (F : Fm c B m own s) (h : s'.heap = s.heap) (hg : s'.gens = s.gens) (ho : s'.os = s.os) (ht : 1 ≤ s'.toks) : Fm c B m own s' := by
  obtain ⟨h', g, d, t, o⟩ := s'
  dsimp only at h hg ho
  subst h hg ho
  exact ⟨F.gg, F.gx, F.gn, F.keep, F.size, F.frz, F.ns, F.ow, F.bL, F.lL, F.bown, F.nd, F.gens, F.os, ht⟩

structure Grow (s s' : Shared) : Prop where
  ext : Ext s.heap s'.heap
  size : s.heap.objs.size ≤ s'.heap.objs.size
  gens : s'.gens = s.gens
  os : s'.os = s.os
theorem Grow.refl (s : Shared) : Grow s s := ⟨Ext.refl _, Nat.le_refl _, rfl, rfl⟩
theorem Grow.trans {a b c : Shared} (x : Grow a b) (y : Grow b c) : Grow a c := ⟨x.ext.trans y.ext, Nat.le_trans x.size y.size, y.gens.trans x.gens, y.os.trans x.os⟩

/-- the base after growth: what it was, and all that is new -/
noncomputable def grown (B : Heap) (s s' : Shared) : Heap := restr s'.heap fun i => (B.get? i).isSome || decide (s.heap.objs.size ≤ i)
theorem grown_new {B : Heap} {s s' : Shared} {a : Addr} {o : Obj} (h : s'.heap.get? a = some o) (ha : s.heap.objs.size ≤ a) : (grown B s s').get? a = some o := by
  unfold grown; rw [restr_get, if_pos (by simp [ha])]; exact h
theorem Fm.grow {c : Cx} {B : Heap} {m : Lo} {own : Ow} {s s' : Shared} (F : Fm c B m own s) (g : Grow s s') (ht : 1 ≤ s'.toks) : Bs s.heap.objs.size B (grown B s s') ∧ Fm c (grown B s s') m own s' := by
  have hx : Ext B (grown B s s') := fun b o e => by
    unfold grown; rw [restr_get, if_pos (by rw [e]; rfl)]; exact g.ext _ _ (F.frz _ _ e)
  have hn : ∀ b o, (grown B s s').get? b = some o → B.get? b = some o ∨ s.heap.objs.size ≤ b := fun b o e => by
    unfold grown at e
    rw [restr_get] at e
    split at e
    · rename_i q
      rcases Bool.or_eq_true_iff.mp q with q | q
      · left
        obtain ⟨o', q⟩ := Option.isSome_iff_exists.mp q
        have := g.ext _ _ (F.frz _ _ q)
        rw [e] at this; cases this; exact q
      · exact .inr (of_decide_eq_true q)
    · cases e
  have hb : Bs s.heap.objs.size B (grown B s s') := ⟨hx, hn⟩
  have hL : c.L < s.heap.objs.size := F.ns.lt
  refine ⟨hb, ⟨F.gg, F.gx.trans hx, F.gn, fun b o h e => g.ext _ _ (F.keep b o h e), Nat.le_trans F.size g.size, fun b o e => ?_, F.ns.keeps g.ext, fun p hp => let ⟨o, ho, q⟩ := F.ow p hp; ⟨o, g.ext _ _ ho, q⟩, hb.none F.bL hL, F.lL, fun p hp => ?_, F.nd, g.gens.trans F.gens, g.os.trans F.os, ht⟩⟩
  · unfold grown at e
    rw [restr_get] at e
    split at e
    · exact e
    · cases e
  · have := F.bown p hp
    obtain ⟨o, ho, _⟩ := F.ow p hp
    exact ⟨hb.none this.1 (Heap.lt_size ho), this.2⟩

/-! locals -/
noncomputable def put : Lo → Str → Value → Lo
  | [], x, v => [(x, v)]
  | (y, u) :: r, x, v => if x == y then (x, v) :: r else (y, u) :: put r x v
theorem put_lookup (m : Lo) (x : Str) (v : Value) (z : Str) : (put m x v).lookup z = if z = x then some v else m.lookup z := by
  induction m with
  | nil =>
    unfold put
    by_cases h : z = x
    · subst h; simp
    · simp [List.lookup_cons, beq_eq_false_iff_ne.mpr h, h]
  | cons p r ih =>
    obtain ⟨y, u⟩ := p
    unfold put
    by_cases hxy : x = y
    · subst hxy
      by_cases h : z = x
      · subst h; simp
      · simp [List.lookup_cons, beq_eq_false_iff_ne.mpr h, h]
    · rw [if_neg (by simpa using hxy), List.lookup_cons]
      by_cases hzy : z = y
      · subst hzy
        have : ¬ z = x := fun e => hxy e.symm
        simp [this]
      · have e : (z == y) = false := beq_eq_false_iff_ne.mpr hzy
        simp only [e, List.lookup_cons]
        exact ih
theorem Fm.sto {c : Cx} {B : Heap} {m : Lo} {own : Ow} {s : Shared} {x : Str} {v : Value} {h' : Heap} {k : Nat} (F : Fm c B m own s) (hn : h'.Ns c.L (fun y => if y = x then some v else m.lookup y)) (hs : Heap.SameBut c.L s.heap h') (ht : s.toks ≤ k) :
    Fm c B (put m x v) own { s with heap := h', toks := k } := by
  have hk : ∀ b, b ≠ c.L → ∀ o, s.heap.get? b = some o → h'.get? b = some o := fun b hb o e => (hs.2 b hb).trans e
  refine ⟨F.gg, F.gx, F.gn, fun b o hX e => hk b (fun q => ?_) o (F.keep b o hX e), hs.1 ▸ F.size, fun b o e => hk b (fun q => ?_) o (F.frz b o e), ?_, fun p hp => ?_, F.bL, F.lL, F.bown, F.nd, F.gens, F.os, Nat.le_trans F.tk ht⟩
  · subst q; exact absurd (Heap.lt_size e) (Nat.not_lt.mpr F.lL)
  · subst q; rw [F.bL] at e; cases e
  · have : (fun z => (put m x v).lookup z) = fun y => if y = x then some v else m.lookup y := funext fun z => put_lookup m x v z
    show h'.Ns c.L (fun z => (put m x v).lookup z)
    rw [this]; exact hn
  · obtain ⟨o, ho, q⟩ := F.ow p hp
    exact ⟨o, hk _ (F.bown p hp).2.1 o ho, q⟩

/-! own objects -/
noncomputable def setO : Ow → Addr → (Obj → Prop) → Ow
  | [], _, _ => []
  | (b, P) :: r, a, Q => if a = b then (b, Q) :: r else (b, P) :: setO r a Q
theorem setO_map (own : Ow) (a : Addr) (Q : Obj → Prop) : (setO own a Q).map (·.1) = own.map (·.1) := by
  induction own with
  | nil => rfl
  | cons p r ih =>
    obtain ⟨b, P⟩ := p
    unfold setO
    split
    · rfl
    · simp [ih]
theorem setO_mem {own : Ow} {a : Addr} {Q : Obj → Prop} (hn : (own.map (·.1)).Nodup) {p : Addr × (Obj → Prop)} (hp : p ∈ setO own a Q) : (p.1 = a ∧ p.2 = Q ∧ ∃ P, (a, P) ∈ own) ∨ (p.1 ≠ a ∧ p ∈ own) := by
  induction own with
  | nil => cases hp
  | cons q r ih =>
    obtain ⟨b, P⟩ := q
    unfold setO at hp
    rw [List.map_cons, List.nodup_cons] at hn
    split at hp
    · rename_i hab
      subst hab
      rcases List.mem_cons.mp hp with rfl | hp
      · exact .inl ⟨rfl, rfl, P, .head _⟩
      · refine .inr ⟨fun e => hn.1 ?_, .tail _ hp⟩
        exact List.mem_map.mpr ⟨p, hp, e⟩
    · rename_i hab
      rcases List.mem_cons.mp hp with rfl | hp
      · exact .inr ⟨fun e => hab e.symm, .head _⟩
      · rcases ih hn.2 hp with ⟨h1, h2, P', h3⟩ | ⟨h1, h2⟩
        · exact .inl ⟨h1, h2, P', .tail _ h3⟩
        · exact .inr ⟨h1, .tail _ h2⟩
/-- one own object changed -/
theorem Fm.upd {c : Cx} {B : Heap} {m : Lo} {own : Ow} {s s' : Shared} {a : Addr} {P Q : Obj → Prop} {o' : Obj} (F : Fm c B m own s) (ha : (a, P) ∈ own) (hs : Heap.SameBut a s.heap s'.heap) (ho : s'.heap.get? a = some o') (hQ : Q o')
    (hg : s'.gens = s.gens) (hos : s'.os = s.os) (ht : s.toks ≤ s'.toks) : Fm c B m (setO own a Q) s' := by
  have hk : ∀ b, b ≠ a → ∀ o, s.heap.get? b = some o → s'.heap.get? b = some o := fun b hb o e => (hs.2 b hb).trans e
  obtain ⟨h1, h2, h3⟩ := F.bown _ ha
  refine ⟨F.gg, F.gx, F.gn, fun b o hX e => hk b (fun q => ?_) o (F.keep b o hX e), hs.1 ▸ F.size, fun b o e => hk b (fun q => ?_) o (F.frz b o e), F.ns.sameBut hs (fun e => h2 e.symm), fun p hp => ?_, F.bL, F.lL, fun p hp => ?_, ?_, hg.trans F.gens, hos.trans F.os, Nat.le_trans F.tk ht⟩
  · subst q
    rcases h3 with h3 | h3
    · exact absurd (Heap.lt_size e) (Nat.not_lt.mpr h3)
    · exact hX h3
  · subst q; rw [h1] at e; cases e
  · rcases setO_mem F.nd hp with ⟨e1, e2, _⟩ | ⟨e1, e2⟩
    · exact ⟨o', e1 ▸ ho, e2 ▸ hQ⟩
    · obtain ⟨o, ho, q⟩ := F.ow p e2
      exact ⟨o, hk _ e1 o ho, q⟩
  · rcases setO_mem F.nd hp with ⟨e1, e2, _⟩ | ⟨e1, e2⟩
    · rw [e1]; exact ⟨h1, h2, h3⟩
    · exact F.bown p e2
  · rw [setO_map]; exact F.nd
/-- the base without one object -/
noncomputable def less (B : Heap) (a : Addr) : Heap := restr B fun i => i != a
theorem less_get {B : Heap} {a b : Addr} (h : b ≠ a) : (less B a).get? b = B.get? b := by
  unfold less; rw [restr_get, if_pos (by simpa using h)]
theorem less_none (B : Heap) (a : Addr) : (less B a).get? a = none := by
  unfold less; rw [restr_get, if_neg (by simp)]
theorem less_ext (B : Heap) (a : Addr) : Ext (less B a) B := fun b o e => by
  by_cases h : b = a
  · subst h; rw [less_none] at e; cases e
  · rwa [less_get h] at e
theorem less_bs {n : Nat} {B B' : Heap} {a : Addr} (b : Bs n B B') (h : B.get? a = none) : Bs n B (less B' a) :=
  ⟨fun p o e => by
    have : p ≠ a := fun q => by subst q; rw [h] at e; cases e
    rw [less_get this]; exact b.ext _ _ e, fun p o e => b.new p o (less_ext _ _ _ _ e)⟩
/-- a new object of the base becomes an own one -/
theorem Fm.take {c : Cx} {B B' : Heap} {m : Lo} {own : Ow} {s : Shared} {a : Addr} {P : Obj → Prop} {o : Obj} (F : Fm c B' m own s) (b : Bs c.n B B') (ha : B.get? a = none) (ho : B'.get? a = some o) (hP : P o) : Fm c (less B' a) m ((a, P) :: own) s := by
  have hn : c.n ≤ a := (b.new a o ho).elim (fun e => by rw [ha] at e; cases e) id
  refine ⟨F.gg, fun p o e => ?_, F.gn, F.keep, F.size, fun p o e => F.frz _ _ (less_ext _ _ _ _ e), F.ns, fun p hp => ?_, ?_, F.lL, fun p hp => ?_, ?_, F.gens, F.os, F.tk⟩
  · have hp : p ≠ a := fun q => Nat.lt_irrefl _ (Nat.lt_of_lt_of_le (q ▸ Heap.lt_size e) (Nat.le_trans F.gn hn))
    rw [less_get hp]; exact F.gx _ _ e
  · rcases List.mem_cons.mp hp with rfl | hp
    · exact ⟨o, F.frz _ _ ho, hP⟩
    · exact F.ow p hp
  · by_cases h : c.L = a
    · rw [h]; exact less_none _ _
    · rw [less_get h]; exact F.bL
  · rcases List.mem_cons.mp hp with rfl | hp
    · refine ⟨less_none _ _, fun e => ?_, .inl hn⟩
      have := F.bL
      have e' : a = c.L := e
      rw [← e', ho] at this; cases this
    · have q := F.bown p hp
      refine ⟨?_, q.2⟩
      by_cases h : p.1 = a
      · rw [h]; exact less_none _ _
      · rw [less_get h]; exact q.1
  · rw [List.map_cons, List.nodup_cons]
    refine ⟨fun h => ?_, F.nd⟩
    obtain ⟨p, hp, e⟩ := List.mem_map.mp h
    have := (F.bown p hp).1
    rw [e, ho] at this; cases this
/-- an own object is laid down: from now on it stays -/
noncomputable def more (B : Heap) (s : Shared) (a : Addr) : Heap := restr s.heap fun i => (B.get? i).isSome || i == a
theorem more_old {B : Heap} {s : Shared} {a : Addr} (x : Ext B s.heap) : Ext B (more B s a) := fun b o e => by
  unfold more; rw [restr_get, if_pos (by rw [e]; rfl)]; exact x _ _ e
theorem more_new {B : Heap} {s : Shared} {a : Addr} {o : Obj} (h : s.heap.get? a = some o) : (more B s a).get? a = some o := by
  unfold more; rw [restr_get, if_pos (by simp)]; exact h
theorem more_ext {B : Heap} {s : Shared} {a : Addr} : Ext (more B s a) s.heap := fun b o e => by
  unfold more at e
  rw [restr_get] at e
  split at e
  · exact e
  · cases e
theorem more_or {B : Heap} {s : Shared} {a b : Addr} {o : Obj} (x : Ext B s.heap) (e : (more B s a).get? b = some o) : B.get? b = some o ∨ b = a := by
  have := more_ext _ _ e
  unfold more at e
  rw [restr_get] at e
  split at e
  · rename_i q
    rcases Bool.or_eq_true_iff.mp q with q | q
    · obtain ⟨o', q⟩ := Option.isSome_iff_exists.mp q
      have h := x _ _ q
      rw [e] at h; cases h; exact .inl q
    · exact .inr (by simpa using q)
  · cases e
theorem Fm.give {c : Cx} {B : Heap} {m : Lo} {own : Ow} {s : Shared} {a : Addr} {P : Obj → Prop} (F : Fm c B m ((a, P) :: own) s) (hn : c.n ≤ a) :
    ∃ B', Bs c.n B B' ∧ (∃ o, B'.get? a = some o ∧ P o) ∧ Fm c B' m own s := by
  obtain ⟨o, ho, hP⟩ := F.ow _ (.head _)
  obtain ⟨h1, h2, h3⟩ := F.bown _ (.head _)
  have nd := F.nd
  rw [List.map_cons, List.nodup_cons] at nd
  refine ⟨more B s a, ⟨more_old F.frz, fun b o e => (more_or F.frz e).imp id fun q => by rw [q]; exact hn⟩, ⟨o, more_new ho, hP⟩, ⟨F.gg, F.gx.trans (more_old F.frz), F.gn, F.keep, F.size, more_ext, F.ns, fun p hp => F.ow p (.tail _ hp), ?_, F.lL, fun p hp => ?_, nd.2, F.gens, F.os, F.tk⟩⟩
  · cases q : (more B s a).get? c.L with
    | none => rfl
    | some o' => rcases more_or F.frz q with e | e
                 · rw [F.bL] at e; cases e
                 · exact absurd e.symm h2
  · have q := F.bown p (.tail _ hp)
    refine ⟨?_, q.2⟩
    cases r : (more B s a).get? p.1 with
    | none => rfl
    | some o' => rcases more_or F.frz r with e | e
                 · rw [q.1] at e; cases e
                 · exact absurd (List.mem_map.mpr ⟨p, hp, e⟩) nd.1

structure GV {α : Type} (c : Cx) (B : Heap) (m : Lo) (own : Ow) (t : Sem α) (R : Heap → α → Prop) : Prop where
  run : ∀ s Q E, Fm c B m own s → (∀ v s' B', Bs c.n B B' → Fm c B' m own s' → R B' v → Q v s') → wpAny (Md c.w) c.A t Q E s

section
variable {α β : Type} {c : Cx} {B : Heap} {m : Lo} {own : Ow}
theorem GV.mono {t : Sem α} {R R' : Heap → α → Prop} (h : GV c B m own t R) (k : ∀ B' v, Bs c.n B B' → R B' v → R' B' v) : GV c B m own t R' :=
  ⟨fun s Q E F q => by with_reducible exact h.run s Q E F fun v s' B' b F' r => q v s' B' b F' (k B' v b r)⟩
/-- a tree that leaves the heap -/
theorem GV.still {t : Sem α} {R : Heap → α → Prop} (h : ∀ s Q E, Fm c B m own s → (∀ v k d, R B v → Q v { s with toks := k, drawn := d }) → wpAny (Md c.w) c.A t Q E s) : GV c B m own t R :=
  ⟨fun s Q E F q => by
    with_reducible refine wpAny_with_toks F.tk (h s _ _ F fun v k d r ht => ?_)
    exact q v _ B (Bs.refl _ _) (F.still rfl rfl rfl ht) r⟩
/-- a tree that grows the heap -/
theorem GV.grow {t : Sem α} {R : Heap → α → Prop} (h : ∀ s Q E, Fm c B m own s → (∀ v s', Grow s s' → (∀ B', Bs s.heap.objs.size B B' → Ext B' s'.heap → (∀ a o, s.heap.objs.size ≤ a → s'.heap.get? a = some o → B'.get? a = some o) → R B' v) → Q v s') → wpAny (Md c.w) c.A t Q E s) : GV c B m own t R :=
  ⟨fun s Q E F q => by
    with_reducible refine wpAny_with_toks F.tk (h s _ _ F fun v s' g r ht => ?_)
    obtain ⟨b, F'⟩ := F.grow g ht
    exact q v s' _ (b.low F.size) F' (r _ b F'.frz fun a o ha e => grown_new e ha)⟩
end

structure EV (c : Cx) (B : Heap) (m : Lo) (own : Ow) (e : Expr) (R : Heap → Value → Prop) : Prop where
  run : ∀ B', Bs c.n B B' → GV c B' m own (eval e c.env) R
structure AV (c : Cx) (B : Heap) (m : Lo) (own : Ow) (pos : Pos) (es : List Expr) (R : Heap → List Value → Prop) : Prop where
  run : ∀ B', Bs c.n B B' → GV c B' m own (spliced (backTo pos (starEach es c.env))) R
structure TV (c : Cx) (B : Heap) (m : Lo) (own : Ow) (e : Expr) (b : Bool) : Prop where
  run : ∀ B', Bs c.n B B' → GV c B' m own (isTrue e c.env (eval e c.env)) fun _ v => v = b
noncomputable abbrev IV (c : Cx) (B : Heap) (m : Lo) (own : Ow) (e : Expr) (x : Int) : Prop := EV c B m own e fun _ v => ∃ t, v = .int x t
noncomputable abbrev SV (c : Cx) (B : Heap) (m : Lo) (own : Ow) (e : Expr) (x : Str) : Prop := EV c B m own e fun _ v => ∃ t, v = .str x t
noncomputable abbrev VV (c : Cx) (B : Heap) (m : Lo) (own : Ow) (e : Expr) (x : Value) : Prop := EV c B m own e fun _ v => v = x

theorem EV.bs {c : Cx} {B B' : Heap} {m : Lo} {own : Ow} {e : Expr} {R : Heap → Value → Prop} (h : EV c B m own e R) (b : Bs c.n B B') : EV c B' m own e R := ⟨fun _ b' => h.run _ (b.trans b')⟩
theorem AV.bs {c : Cx} {B B' : Heap} {m : Lo} {own : Ow} {pos : Pos} {e : List Expr} {R : Heap → List Value → Prop} (h : AV c B m own pos e R) (b : Bs c.n B B') : AV c B' m own pos e R := ⟨fun _ b' => h.run _ (b.trans b')⟩
theorem TV.bs {c : Cx} {B B' : Heap} {m : Lo} {own : Ow} {e : Expr} {b : Bool} (h : TV c B m own e b) (k : Bs c.n B B') : TV c B' m own e b := ⟨fun _ b' => h.run _ (k.trans b')⟩
theorem EV.mono {c : Cx} {B : Heap} {m : Lo} {own : Ow} {e : Expr} {R R' : Heap → Value → Prop} (h : EV c B m own e R) (k : ∀ B' v, Bs c.n B B' → R B' v → R' B' v) : EV c B m own e R' :=
  ⟨fun B' b => (h.run B' b).mono fun B'' v b' r => k B'' v (b.trans b') r⟩
end Mine

end
section
open PySem PySem.W PyProof.Rows
set_option Elab.async false
set_option autoImplicit false
set_option linter.unusedVariables false
namespace Mine

section
variable {c : Cx} {B : Heap} {m : Lo} {own : Ow}

theorem EV.still {e : Expr} {R : Heap → Value → Prop} (h : ∀ B', Bs c.n B B' → ∀ s Q E, Fm c B' m own s → (∀ v k d, R B' v → Q v { s with toks := k, drawn := d }) → wpAny (Md c.w) c.A (eval e c.env) Q E s) : EV c B m own e R :=
  ⟨fun B' b => GV.still (h B' b)⟩

/-! names and constants -/
theorem VV.loc {x : Str} {pos : Pos} {v : Value} (hv : m.lookup x = some v) (hl : c.env.kindOf x = some .local) (hk : c.env.scope.kind = .function)
    (hd : (x == ("__debug__" : Str)) = false := by decide) : VV c B m own (.Name x pos) v :=
  EV.still fun B' b s Q E F q => by with_reducible exact wpAny_Name (wpAny_loadName_local hk hl F.ns hv (q v s.toks s.drawn rfl)) hd
theorem VV.glob {x : Str} {pos : Pos} {v : Value} (hv : nsIn (KK c.w) mainGlobals x = some (some v)) (hl : c.env.kindOf x = some .globalImplicit) (hk : c.env.scope.kind = .function) (hg : c.env.globals = mainGlobals)
    (hd : (x == ("__debug__" : Str)) = false := by decide) : VV c B m own (.Name x pos) v :=
  EV.still fun B' b s Q E F q => by
    obtain ⟨mg, G⟩ := F.gl.g
    with_reducible refine Calls.Name_function_global hk hl ?_ hd
    with_reducible exact Calls.loadGlobal_global (mg := mg) (by rw [hg]; exact G.keeps F.frz) (mg_of F.gl.k G hv) (q v s.toks s.drawn rfl)
theorem VV.blt {x : Str} {pos : Pos} {v : Value} (hn : nsIn (KK c.w) mainGlobals x = some none) (hv : bootBuiltins x = some v) (hl : c.env.kindOf x = some .globalImplicit) (hk : c.env.scope.kind = .function) (hg : c.env.globals = mainGlobals) (hb : c.env.builtins = builtinsNs)
    (hx : x ≠ "__name__" := by decide) (hd : (x == ("__debug__" : Str)) = false := by decide) : VV c B m own (.Name x pos) v :=
  EV.still fun B' b s Q E F q => by
    obtain ⟨mg, G⟩ := F.gl.g
    obtain ⟨mb, H, r⟩ := F.gl.b
    with_reducible refine Calls.Name_function_global hk hl ?_ hd
    with_reducible exact Calls.loadGlobal_builtin (mg := mg) (mb := mb) (by rw [hg]; exact G.keeps F.frz) (mg_none_of F.gl.k G hn) (by rw [hb]; exact H.keeps F.frz) ((r x hx).trans hv) (q v s.toks s.drawn rfl)
theorem IV.lit {i : Int} {k : Nat} {pos : Pos} : IV c B m own (.Constant (.int i) k pos) i :=
  EV.still fun B' b s Q E F q => by with_reducible exact wpAny_Constant_int (q _ _ s.drawn ⟨_, rfl⟩)
theorem SV.lit {x : Str} {k : Nat} {pos : Pos} : SV c B m own (.Constant (.str x) k pos) x :=
  EV.still fun B' b s Q E F q => by with_reducible exact wpAny_Constant_str (q _ _ s.drawn ⟨_, rfl⟩)
theorem VV.bool {k : Nat} {pos : Pos} {x : Bool} : VV c B m own (.Constant (.bool x) k pos) (.bool x) :=
  EV.still fun B' b s Q E F q => by with_reducible exact wpAny_Constant_bool (q _ s.toks s.drawn rfl)
theorem VV.int {e : Expr} {x : Int} {t : Tok} (h : VV c B m own e (.int x t)) : IV c B m own e x := h.mono fun _ _ _ e => ⟨t, e⟩
theorem VV.str {e : Expr} {x : Str} {t : Tok} (h : VV c B m own e (.str x t)) : SV c B m own e x := h.mono fun _ _ _ e => ⟨t, e⟩

/-! operators -/
theorem EV.binop {l r : Expr} {op : Operator} {pos : Pos} {R1 R : Heap → Value → Prop} (hl : EV c B m own l R1)
    (hr : ∀ B1 a, Bs c.n B B1 → R1 B1 a → EV c B1 m own r fun B2 b => GV c B2 m own (binaryOp op a b) R) : EV c B m own (.BinOp l op r pos) R :=
  ⟨fun B' b => ⟨fun s Q E F q => by
    with_reducible exact wpAny_BinOp ((hl.run B' b).run s _ E F fun a s1 B1 b1 F1 r1 => ((hr B1 a (b.trans b1) r1).run B1 (Bs.refl _ _)).run s1 _ E F1 fun bv s2 B2 b2 F2 r2 =>
      r2.run s2 Q E F2 fun v s3 B3 b3 F3 r3 => q v s3 B3 (b1.trans (b2.trans b3)) F3 r3)⟩⟩
theorem EV.cmp {l r : Expr} {op : CmpOp} {pos : Pos} {R1 R : Heap → Value → Prop} (hl : EV c B m own l R1)
    (hr : ∀ B1 a, Bs c.n B B1 → R1 B1 a → EV c B1 m own r fun B2 b => GV c B2 m own (compareOp op a b) R) (hm : behindInMarks op r = false) : EV c B m own (.Compare l [op] [r] pos) R :=
  ⟨fun B' b => ⟨fun s Q E F q => by
    with_reducible exact wpAny_Compare1 ((hl.run B' b).run s _ E F fun a s1 B1 b1 F1 r1 => ((hr B1 a (b.trans b1) r1).run B1 (Bs.refl _ _)).run s1 _ E F1 fun bv s2 B2 b2 F2 r2 =>
      r2.run s2 Q E F2 fun v s3 B3 b3 F3 r3 => q v s3 B3 (b1.trans (b2.trans b3)) F3 r3) hm⟩⟩
theorem TV.cmp {l r : Expr} {op : CmpOp} {pos : Pos} {R1 : Heap → Value → Prop} {x : Bool} (hl : EV c B m own l R1)
    (hr : ∀ B1 a, Bs c.n B B1 → R1 B1 a → EV c B1 m own r fun B2 b => GV c B2 m own (compareOp op a b) fun _ v => v = .bool x) (hm : behindInMarks op r = false) : TV c B m own (.Compare l [op] [r] pos) x :=
  ⟨fun B' b => ⟨fun s Q E F q => by
    with_reducible refine wpAny_isTrue_Compare1 ((hl.run B' b).run s _ E F fun a s1 B1 b1 F1 r1 => ((hr B1 a (b.trans b1) r1).run B1 (Bs.refl _ _)).run s1 _ E F1 fun bv s2 B2 b2 F2 r2 =>
      r2.run s2 _ E F2 fun v s3 B3 b3 F3 r3 => ?_) hm
    subst r3
    with_reducible exact wpAny_truthy_bool (q x s3 B3 (b1.trans (b2.trans b3)) F3 rfl)⟩⟩
theorem TV.not {e : Expr} {pos : Pos} {x : Bool} (h : TV c B m own e x) : TV c B m own (.UnaryOp .Not e pos) (!x) :=
  ⟨fun B' b => ⟨fun s Q E F q => by with_reducible exact isTrue_not ((h.run B' b).run s _ E F fun v s' B1 b1 F1 r => q _ s' B1 b1 F1 (by rw [r]))⟩⟩
theorem TV.and2 {e f : Expr} {pos : Pos} {x y : Bool} (h : TV c B m own e x) (h2 : x = true → TV c B m own f y) : TV c B m own (.BoolOp .And [e, f] pos) (x && y) :=
  ⟨fun B' b => ⟨fun s Q E F q => by
    with_reducible refine isTrue_and ((h.run B' b).run s _ E F fun v s' B1 b1 F1 r => ?_)
    subst r
    cases v with
    | false => exact q _ s' B1 b1 F1 rfl
    | true =>
      show wpAny _ _ _ _ _ _
      with_reducible refine isTrue_and (((h2 rfl).run B1 (b.trans b1)).run s' _ E F1 fun v' s2 B2 b2 F2 r => ?_)
      subst r
      cases v' with
      | false => exact q _ s2 B2 (b1.trans b2) F2 rfl
      | true => show wpAny _ _ _ _ _ _; with_reducible exact isTrue_and_nil (q _ s2 B2 (b1.trans b2) F2 rfl)⟩⟩
theorem TV.and3 {e f g : Expr} {pos : Pos} {x y z : Bool} (h : TV c B m own e x) (h2 : x = true → TV c B m own f y) (h3 : x = true → y = true → TV c B m own g z) : TV c B m own (.BoolOp .And [e, f, g] pos) (x && (y && z)) :=
  ⟨fun B' b => ⟨fun s Q E F q => by
    with_reducible refine isTrue_and ((h.run B' b).run s _ E F fun v s' B1 b1 F1 r => ?_)
    subst r
    cases v with
    | false => exact q _ s' B1 b1 F1 rfl
    | true =>
      show wpAny _ _ _ _ _ _
      with_reducible refine isTrue_and (((h2 rfl).run B1 (b.trans b1)).run s' _ E F1 fun v' s2 B2 b2 F2 r => ?_)
      subst r
      cases v' with
      | false => exact q _ s2 B2 (b1.trans b2) F2 rfl
      | true =>
        show wpAny _ _ _ _ _ _
        with_reducible refine isTrue_and (((h3 rfl rfl).run B2 (b.trans (b1.trans b2))).run s2 _ E F2 fun v' s3 B3 b3 F3 r => ?_)
        subst r
        cases v' with
        | false => exact q _ s3 B3 (b1.trans (b2.trans b3)) F3 rfl
        | true => show wpAny _ _ _ _ _ _; with_reducible exact isTrue_and_nil (q _ s3 B3 (b1.trans (b2.trans b3)) F3 rfl)⟩⟩
theorem TV.or2 {e f : Expr} {pos : Pos} {x y : Bool} (h : TV c B m own e x) (h2 : x = false → TV c B m own f y) : TV c B m own (.BoolOp .Or [e, f] pos) (x || y) :=
  ⟨fun B' b => ⟨fun s Q E F q => by
    with_reducible refine isTrue_or ((h.run B' b).run s _ E F fun v s' B1 b1 F1 r => ?_)
    subst r
    cases v with
    | true => exact q _ s' B1 b1 F1 rfl
    | false =>
      show wpAny _ _ _ _ _ _
      with_reducible refine isTrue_or (((h2 rfl).run B1 (b.trans b1)).run s' _ E F1 fun v' s2 B2 b2 F2 r => ?_)
      subst r
      cases v' with
      | true => exact q _ s2 B2 (b1.trans b2) F2 rfl
      | false => show wpAny _ _ _ _ _ _; with_reducible exact isTrue_or_nil (q _ s2 B2 (b1.trans b2) F2 rfl)⟩⟩
/-- a plain test: the value's truth -/
theorem TV.val {e : Expr} {x : Bool} {R : Heap → Value → Prop} (h : EV c B m own e R) (ht : ∀ B1 v, Bs c.n B B1 → R B1 v → GV c B1 m own (truthy v) fun _ y => y = x)
    (he : ∀ whole, isTrue e c.env whole = (do let v ← whole; standAt e.pos; holding [v] (truthy v))) : TV c B m own e x :=
  ⟨fun B' b => ⟨fun s Q E F q => by with_reducible exact isTrue_plain ((h.run B' b).run s _ E F fun v s1 B1 b1 F1 r1 => (ht B1 v (b.trans b1) r1).run s1 _ E F1 fun y s2 B2 b2 F2 r2 => q y s2 B2 (b1.trans b2) F2 r2) (he _)⟩⟩

theorem gv_add_int {x y : Int} {t u : Tok} : GV c B m own (binaryOp .Add (.int x t) (.int y u)) fun _ v => ∃ t, v = .int (x + y) t :=
  GV.still fun s Q E F q => by with_reducible exact PyProof.Rows.add_int (q _ _ s.drawn ⟨_, rfl⟩)
theorem gv_sub_int {x y : Int} {t u : Tok} : GV c B m own (binaryOp .Sub (.int x t) (.int y u)) fun _ v => ∃ t, v = .int (x - y) t :=
  GV.still fun s Q E F q => by with_reducible exact PyProof.Rows.sub_int (q _ _ s.drawn ⟨_, rfl⟩)
theorem gv_mod_int {x y : Int} {t u : Tok} (hy : y ≠ 0) : GV c B m own (binaryOp .Mod (.int x t) (.int y u)) fun _ v => ∃ t, v = .int (x.fmod y) t :=
  GV.still fun s Q E F q => by with_reducible exact PyProof.Rows.mod_int hy (q _ _ s.drawn ⟨_, rfl⟩)
theorem IV.add {l r : Expr} {pos : Pos} {x y : Int} (hl : IV c B m own l x) (hr : IV c B m own r y) : IV c B m own (.BinOp l .Add r pos) (x + y) :=
  EV.binop hl fun B1 a b1 ⟨t, ea⟩ => (hr.bs b1).mono fun B2 v b2 ⟨u, ev⟩ => by subst ea ev; exact gv_add_int
theorem IV.sub {l r : Expr} {pos : Pos} {x y : Int} (hl : IV c B m own l x) (hr : IV c B m own r y) : IV c B m own (.BinOp l .Sub r pos) (x - y) :=
  EV.binop hl fun B1 a b1 ⟨t, ea⟩ => (hr.bs b1).mono fun B2 v b2 ⟨u, ev⟩ => by subst ea ev; exact gv_sub_int
theorem IV.mod {l r : Expr} {pos : Pos} {x y : Int} (hl : IV c B m own l x) (hr : IV c B m own r y) (hy : y ≠ 0) : IV c B m own (.BinOp l .Mod r pos) (x.fmod y) :=
  EV.binop hl fun B1 a b1 ⟨t, ea⟩ => (hr.bs b1).mono fun B2 v b2 ⟨u, ev⟩ => by subst ea ev; exact gv_mod_int hy
theorem noMarks {op : CmpOp} {r : Expr} (h : op ≠ .In ∧ op ≠ .NotIn) : behindInMarks op r = false := by
  obtain ⟨h1, h2⟩ := h
  have e1 : (op == CmpOp.In) = false := by cases op <;> first | rfl | exact absurd rfl h1
  have e2 : (op == CmpOp.NotIn) = false := by cases op <;> first | rfl | exact absurd rfl h2
  unfold behindInMarks
  split
  · rw [e1, e2]; simp
  · rfl
theorem TV.cmpII {l r : Expr} {op : CmpOp} {pos : Pos} {x y : Int} {z : Bool} (ho : op ≠ .In ∧ op ≠ .NotIn) (hl : IV c B m own l x) (hr : IV c B m own r y)
    (h : ∀ t u B1, GV c B1 m own (compareOp op (.int x t) (.int y u)) fun _ v => v = .bool z) : TV c B m own (.Compare l [op] [r] pos) z :=
  TV.cmp hl (fun B1 a b1 ⟨t, ea⟩ => (hr.bs b1).mono fun B2 v b2 ⟨u, ev⟩ => by subst ea ev; exact h t u B2) (noMarks ho)
theorem TV.lt {l r : Expr} {pos : Pos} {x y : Int} (hl : IV c B m own l x) (hr : IV c B m own r y) : TV c B m own (.Compare l [.Lt] [r] pos) (decide (x < y)) :=
  TV.cmpII (by decide) hl hr fun t u B1 => GV.still fun s Q E F q => by with_reducible exact PyProof.Rows.lt_int (q _ s.toks s.drawn rfl)
theorem TV.le {l r : Expr} {pos : Pos} {x y : Int} (hl : IV c B m own l x) (hr : IV c B m own r y) : TV c B m own (.Compare l [.LtE] [r] pos) (decide (x ≤ y)) :=
  TV.cmpII (by decide) hl hr fun t u B1 => GV.still fun s Q E F q => by with_reducible exact PyProof.Rows.le_int (q _ s.toks s.drawn rfl)
theorem TV.gt {l r : Expr} {pos : Pos} {x y : Int} (hl : IV c B m own l x) (hr : IV c B m own r y) : TV c B m own (.Compare l [.Gt] [r] pos) (decide (y < x)) :=
  TV.cmpII (by decide) hl hr fun t u B1 => GV.still fun s Q E F q => by with_reducible exact PyProof.Rows.gt_int (q _ s.toks s.drawn rfl)
theorem TV.eqI {l r : Expr} {pos : Pos} {x y : Int} (hl : IV c B m own l x) (hr : IV c B m own r y) : TV c B m own (.Compare l [.Eq] [r] pos) (x == y) :=
  TV.cmpII (by decide) hl hr fun t u B1 => GV.still fun s Q E F q => by with_reducible exact PyProof.Rows.eq_int (q _ s.toks s.drawn rfl)
theorem gv_eq_str {x y : Str} {t u : Tok} : GV c B m own (compareOp .Eq (.str x t) (.str y u)) fun _ v => v = .bool (x == y) :=
  GV.still fun s Q E F q => by with_reducible exact P.eq_str (q _ s.toks s.drawn (by rw [PySem.SeqAt.str_beq]))
theorem gv_ne_str {x y : Str} {t u : Tok} : GV c B m own (compareOp .NotEq (.str x t) (.str y u)) fun _ v => v = .bool (x != y) :=
  GV.still fun s Q E F q => by with_reducible exact P.ne_str (q _ s.toks s.drawn (by rw [bne, PySem.SeqAt.str_beq, bne]))
theorem TV.eqS {l r : Expr} {pos : Pos} {x y : Str} (hl : SV c B m own l x) (hr : SV c B m own r y) : TV c B m own (.Compare l [.Eq] [r] pos) (x == y) :=
  TV.cmp hl (fun B1 a b1 ⟨t, ea⟩ => (hr.bs b1).mono fun B2 v b2 ⟨u, ev⟩ => by subst ea ev; exact gv_eq_str) (noMarks (by decide))
theorem TV.neS {l r : Expr} {pos : Pos} {x y : Str} (hl : SV c B m own l x) (hr : SV c B m own r y) : TV c B m own (.Compare l [.NotEq] [r] pos) (x != y) :=
  TV.cmp hl (fun B1 a b1 ⟨t, ea⟩ => (hr.bs b1).mono fun B2 v b2 ⟨u, ev⟩ => by subst ea ev; exact gv_ne_str) (noMarks (by decide))
end
end Mine

end
section
open PySem PySem.W PyProof.Rows
set_option Elab.async false
set_option autoImplicit false
set_option linter.unusedVariables false
namespace Mine

structure XW (c : Cx) (B : Heap) (m : Lo) (own : Ow) (t : Sem Flow) (K : Flow → Heap → Lo → Ow → Prop) : Prop where
  run : ∀ s Q E, Fm c B m own s → (∀ f s' B' m' own', Bs c.n B B' → Fm c B' m' own' s' → K f B' m' own' → Q f s') → wpAny (Md c.w) c.A t Q E s
noncomputable def seqK (c : Cx) (rest : List Stmt) (K : Flow → Heap → Lo → Ow → Prop) (f : Flow) (B : Heap) (m : Lo) (own : Ow) : Prop := match f with
  | .next => XW c B m own (execs rest c.env) K
  | f => K f B m own

section
variable {c : Cx} {B : Heap} {m : Lo} {own : Ow} {K : Flow → Heap → Lo → Ow → Prop} {rest : List Stmt}
theorem XW.mono {t : Sem Flow} {K' : Flow → Heap → Lo → Ow → Prop} (h : XW c B m own t K) (k : ∀ f B' m' own', Bs c.n B B' → K f B' m' own' → K' f B' m' own') : XW c B m own t K' :=
  ⟨fun s Q E F q => by with_reducible exact h.run s Q E F fun f s' B' m' own' b F' r => q f s' B' m' own' b F' (k f B' m' own' b r)⟩
theorem XW.nil (h : K .next B m own) : XW c B m own (execs [] c.env) K :=
  ⟨fun s Q E F q => by with_reducible exact wpAny_execs_nil (q _ s B m own (Bs.refl _ _) F h)⟩
theorem XW.cons {st : Stmt} (h : XW c B m own (exec st c.env) (seqK c rest K)) : XW c B m own (execs (st :: rest) c.env) K :=
  ⟨fun s Q E F q => by
    with_reducible refine wpAny_execs_cons (h.run s _ E F fun f s' B' m' own' b F' r => ?_)
    cases f with
    | next =>
      have r' : XW c B' m' own' (execs rest c.env) K := r
      with_reducible exact r'.run s' Q E F' fun f s2 B2 m2 own2 b2 F2 r2 => q f s2 B2 m2 own2 (b.trans b2) F2 r2
    | brk => exact q _ s' B' m' own' b F' r
    | cont => exact q _ s' B' m' own' b F' r
    | ret v => exact q _ s' B' m' own' b F' r⟩
theorem GV.sto {x : Str} {v : Value} {K : Heap → Lo → Prop} (hl : c.env.kindOf x = some .local) (hk : c.env.scope.kind = .function) :
    ∀ s (Q : Unit → Shared → Prop) E, Fm c B m own s → (∀ s', Fm c B (put m x v) own s' → Q () s') → wpAny (Md c.w) c.A (storeName c.env x v) Q E s := fun s Q E F q => by
  with_reducible refine wpAny_storeName_local hl F.ns (fun h' hn hs => q _ (F.sto hn hs (Nat.le_succ _))) ?_
  rw [hk]; rfl
theorem XW.assign {x : Str} {e : Expr} {pos pos' : Pos} (h : EV c B m own e fun B' v => XW c B' (put m x v) own (execs rest c.env) K) (hl : c.env.kindOf x = some .local) (hk : c.env.scope.kind = .function)
    (hs : swapsWith e (some (.Name x pos')) pos.line c.env = pure false) : XW c B m own (execs (.Assign [.Name x pos'] e pos :: rest) c.env) K :=
  XW.cons ⟨fun s Q E F q => by
    with_reducible refine wpAny_Assign_Name ((h.run B (Bs.refl _ _)).run s _ E F fun v s1 B1 b1 F1 r1 => ?_) hs
    exact GV.sto (K := fun _ _ => True) hl hk s1 _ E F1 fun s2 F2 => q .next s2 B1 _ _ b1 F2 r1⟩
theorem XW.aug {x : Str} {op : Operator} {e : Expr} {pos pos' : Pos} {old : Value} {R : Heap → Value → Prop} (ho : m.lookup x = some old) (he : EV c B m own e R)
    (h : ∀ B1 v, Bs c.n B B1 → R B1 v → GV c B1 m own (inplaceOp op old v) fun B' v => XW c B' (put m x v) own (execs rest c.env) K) (hl : c.env.kindOf x = some .local) (hk : c.env.scope.kind = .function) :
    XW c B m own (execs (.AugAssign (.Name x pos') op e pos :: rest) c.env) K :=
  XW.cons ⟨fun s Q E F q => by
    with_reducible refine wpAny_AugAssign_Name (wpAny_loadName_local hk hl F.ns ho ((he.run B (Bs.refl _ _)).run s _ E F fun v s1 B1 b1 F1 r1 => (h B1 v b1 r1).run s1 _ E F1 fun r s2 B2 b2 F2 r2 => ?_))
    exact GV.sto (K := fun _ _ => True) hl hk s2 _ E F2 fun s3 F3 => q .next s3 B2 _ _ (b1.trans b2) F3 r2⟩
theorem XW.ite {test : Expr} {body orelse : List Stmt} {pos : Pos} {x : Bool} (ht : TV c B m own test x) (h1 : x = true → ∀ B1, Bs c.n B B1 → XW c B1 m own (execs body c.env) (seqK c rest K))
    (h2 : x = false → ∀ B1, Bs c.n B B1 → XW c B1 m own (execs orelse c.env) (seqK c rest K)) : XW c B m own (execs (.If test body orelse pos :: rest) c.env) K :=
  XW.cons ⟨fun s Q E F q => by
    with_reducible refine wpAny_If ((ht.run B (Bs.refl _ _)).run s _ E F fun v s1 B1 b1 F1 r1 => ?_)
    subst r1
    cases v with
    | true => show wpAny _ _ _ _ _ _; with_reducible exact (h1 rfl B1 b1).run s1 Q E F1 fun f s2 B2 m2 own2 b2 F2 r2 => q f s2 B2 m2 own2 (b1.trans b2) F2 r2
    | false => show wpAny _ _ _ _ _ _; with_reducible exact (h2 rfl B1 b1).run s1 Q E F1 fun f s2 B2 m2 own2 b2 F2 r2 => q f s2 B2 m2 own2 (b1.trans b2) F2 r2⟩
theorem XW.ret {e : Expr} {pos : Pos} (h : EV c B m own e fun B' v => K (.ret v) B' m own) : XW c B m own (execs (.Return (some e) pos :: rest) c.env) K :=
  XW.cons ⟨fun s Q E F q => by
    with_reducible refine wpAny_Return_some ((h.run B (Bs.refl _ _)).run s _ E F fun v s1 B1 b1 F1 r1 => ?_)
    exact q _ s1 B1 m own b1 F1 r1⟩
theorem XW.brk {pos : Pos} (h : K .brk B m own) : XW c B m own (execs (.Break pos :: rest) c.env) K :=
  XW.cons ⟨fun s Q E F q => by
    with_reducible refine wpAny_Break ?_
    exact q _ s B m own (Bs.refl _ _) F h⟩
theorem XW.cont {pos : Pos} (h : K .cont B m own) : XW c B m own (execs (.Continue pos :: rest) c.env) K :=
  XW.cons ⟨fun s Q E F q => by
    with_reducible refine wpAny_Continue ?_
    exact q _ s B m own (Bs.refl _ _) F h⟩
noncomputable def loopK (c : Cx) (rest : List Stmt) (K : Flow → Heap → Lo → Ow → Prop) (n : Nat) (I : Nat → Heap → Lo → Ow → Prop) (f : Flow) (B : Heap) (m : Lo) (own : Ow) : Prop := match f with
  | .next | .cont => ∃ k, k < n ∧ I k B m own
  | .brk => XW c B m own (execs rest c.env) K
  | .ret v => K (.ret v) B m own
theorem XW.while {test : Expr} {body : List Stmt} {pos : Pos} (I : Nat → Heap → Lo → Ow → Prop) (n : Nat) (h0 : I n B m own)
    (turn : ∀ n B1 m1 own1, Bs c.n B B1 → I n B1 m1 own1 → ∃ x, TV c B1 m1 own1 test x ∧
      (x = true → ∀ B2, Bs c.n B1 B2 → XW c B2 m1 own1 (execs body c.env) (loopK c rest K n I)) ∧
      (x = false → ∀ B2, Bs c.n B1 B2 → XW c B2 m1 own1 (execs rest c.env) K)) : XW c B m own (execs (.While test body [] pos :: rest) c.env) K :=
  XW.cons ⟨fun s Q E F q => by
    with_reducible refine wpAny_While (codeAny_whileLoop (fun n s => ∃ B1 m1 own1, Bs c.n B B1 ∧ Fm c B1 m1 own1 s ∧ I n B1 m1 own1) (fun n s hI => ?_) n ⟨B, m, own, Bs.refl _ _, F, h0⟩)
    obtain ⟨B1, m1, own1, b1, F1, hI⟩ := hI
    obtain ⟨x, ht, h1, h2⟩ := turn n B1 m1 own1 b1 hI
    with_reducible refine (ht.run B1 (Bs.refl _ _)).run s _ _ F1 fun v s2 B2 b2 F2 r2 => ?_
    subst r2
    cases v with
    | false =>
      show wpAny _ _ _ _ _ _
      with_reducible refine wpAny_execs_nil ?_
      exact q .next s2 B2 m1 own1 (b1.trans b2) F2 (h2 rfl B2 b2)
    | true =>
      show wpAny _ _ _ _ _ _
      with_reducible refine (h1 rfl B2 b2).run s2 _ _ F2 fun f s3 B3 m3 own3 b3 F3 r3 => ?_
      cases f with
      | next => obtain ⟨k, hk, hI'⟩ := r3; exact ⟨k, hk, B3, m3, own3, b1.trans (b2.trans b3), F3, hI'⟩
      | cont => obtain ⟨k, hk, hI'⟩ := r3; exact ⟨k, hk, B3, m3, own3, b1.trans (b2.trans b3), F3, hI'⟩
      | brk => exact q .next s3 B3 m3 own3 (b1.trans (b2.trans b3)) F3 r3
      | ret v => exact q (.ret v) s3 B3 m3 own3 (b1.trans (b2.trans b3)) F3 r3⟩
end

/-! own objects: taken, given back -/
section
variable {c : Cx} {B B' : Heap} {m : Lo} {own : Ow} {K : Flow → Heap → Lo → Ow → Prop} {t : Sem Flow} {rest : List Stmt}
theorem XW.assignNew {x : Str} {e : Expr} {pos pos' : Pos} {P : Obj → Prop} {D : Heap → Prop} (h : EV c B m own e fun B1 v => ∃ a, v = .ref a ∧ B.get? a = none ∧ (∃ o, B1.get? a = some o ∧ P o) ∧ D (less B1 a))
    (k : ∀ a B2, c.n ≤ a → Bs c.n B B2 → D B2 → XW c B2 (put m x (.ref a)) ((a, P) :: own) (execs rest c.env) K) (hl : c.env.kindOf x = some .local) (hk : c.env.scope.kind = .function)
    (hs : swapsWith e (some (.Name x pos')) pos.line c.env = pure false) : XW c B m own (execs (.Assign [.Name x pos'] e pos :: rest) c.env) K :=
  XW.cons ⟨fun s Q E F q => by
    with_reducible refine wpAny_Assign_Name ((h.run B (Bs.refl _ _)).run s _ E F fun v s1 B1 b1 F1 r1 => ?_) hs
    obtain ⟨a, rfl, ha, ⟨o, ho, hP⟩, hD⟩ := r1
    have hn : c.n ≤ a := (b1.new a o ho).elim (fun e => by rw [ha] at e; cases e) id
    exact GV.sto (K := fun _ _ => True) hl hk s1 _ E (F1.take b1 ha ho hP) fun s2 F2 => q .next s2 _ _ _ (less_bs b1 ha) F2 (k a _ hn (less_bs b1 ha) hD)⟩
theorem Fm.drop {a : Addr × (Obj → Prop)} {s : Shared} (F : Fm c B m (a :: own) s) : Fm c B m own s :=
  ⟨F.gg, F.gx, F.gn, F.keep, F.size, F.frz, F.ns, fun p hp => F.ow p (.tail _ hp), F.bL, F.lL, fun p hp => F.bown p (.tail _ hp), by
    have := F.nd; rw [List.map_cons, List.nodup_cons] at this; exact this.2, F.gens, F.os, F.tk⟩
theorem XW.give {a : Addr} {P : Obj → Prop} (hn : c.n ≤ a) (h : ∀ B', Bs c.n B B' → (∃ o, B'.get? a = some o ∧ P o) → XW c B' m own t K) : XW c B m ((a, P) :: own) t K :=
  ⟨fun s Q E F q => by
    obtain ⟨B', b, ho, F'⟩ := F.give hn
    with_reducible exact (h B' b ho).run s Q E F' fun f s' B2 m' own' b2 F2 r => q f s' B2 m' own' (b.trans b2) F2 r⟩
end

/-! for loops: an iterator whose state is told by the turn's number -/
structure NX (c : Cx) (B0 : Heap) (it : Addr) (St : Nat → Obj → Prop) (i : Nat) (more : Bool) (target : Expr) (V : Heap → Value → Prop) : Prop where
  run : ∀ B m own s (Q : Option Value → Shared → Prop) E, Bs c.n B0 B → Fm c B m ((it, St i) :: own) s →
    (more = true → ∀ v s', (∀ (Q : Unit → Shared → Prop) E, (∀ s'' B'', Bs c.n B B'' → V B'' v → Fm c B'' m ((it, St (i + 1)) :: own) s'' → Q () s'') → wpAny (Md c.w) c.A (letOwnedTupleGo target (.ref it) v) Q E s') → Q (some v) s') →
    (more = false → ∀ s', Fm c B m own s' → Q none s') → wpAny (Md c.w) c.A (pyNext (.ref it)) Q E s
/-- a store of a drawn value -/
structure TG (c : Cx) (target : Expr) (V : Heap → Value → Prop) (U : Heap → Lo → Lo → Prop) : Prop where
  run : ∀ B m own v s (Q : Unit → Shared → Prop) E, V B v → Fm c B m own s → (∀ s' B' m', Bs c.n B B' → U B' m m' → Fm c B' m' own s' → Q () s') → wpAny (Md c.w) c.A (assign target c.env v) Q E s
noncomputable def forK (c : Cx) (rest : List Stmt) (K : Flow → Heap → Lo → Ow → Prop) (p : Addr × (Obj → Prop)) (J : Heap → Lo → Ow → Prop) (f : Flow) (B : Heap) (m : Lo) (own : Ow) : Prop := ∃ own', own = p :: own' ∧ match f with
  | .next | .cont => J B m own'
  | .brk => XW c B m own' (execs rest c.env) K
  | .ret v => K (.ret v) B m own'
section
variable {c : Cx} {B : Heap} {m : Lo} {own : Ow} {K : Flow → Heap → Lo → Ow → Prop} {rest : List Stmt}
end
theorem TG.name {c : Cx} {x : Str} {p : Pos} {V : Heap → Value → Prop} (hl : c.env.kindOf x = some .local) (hk : c.env.scope.kind = .function) : TG c (.Name x p) V fun B m m' => ∃ v, V B v ∧ m' = put m x v :=
  ⟨fun B m own v s Q E hV F q => by
    with_reducible refine wpAny_assign_Name ?_
    exact GV.sto (K := fun _ _ => True) hl hk s _ E F fun s2 F2 => q s2 B _ (Bs.refl _ _) ⟨v, hV, rfl⟩ F2⟩
/-- plain lists -/
noncomputable def isL (vs : List Value) (o : Obj) : Prop := ∃ n, o = { cls := .type "list", data := .seq vs.toArray n }
noncomputable def Ls (h : Heap) (a : Addr) (vs : List Value) : Prop := ∃ o, h.get? a = some o ∧ isL vs o
theorem Ls.ext {h h' : Heap} {a : Addr} {vs : List Value} (x : Ls h a vs) (e : Ext h h') : Ls h' a vs := let ⟨o, ho, r⟩ := x; ⟨o, e _ _ ho, r⟩
theorem Ls.list {h : Heap} {a : Addr} {vs : List Value} (x : Ls h a vs) : h.IsList a vs.toArray := by
  obtain ⟨o, ho, n, rfl⟩ := x
  exact ⟨_, ho, rfl, n, rfl⟩
noncomputable def isLI (l : Addr) (i : Nat) (o : Obj) : Prop := o.cls = .type "list_iterator" ∧ o.data = .fields #[.ref l, .int i 0]
theorem Bs.ex {n : Nat} {B B' : Heap} {P : Heap → Prop} (b : Bs n B B') (h : ∀ h h', Ext h h' → P h → P h') (x : P B) : P B' := h _ _ b.ext x
theorem setO_head {a : Addr} {P Q : Obj → Prop} {own : Ow} : setO ((a, P) :: own) a Q = (a, Q) :: own := by unfold setO; rw [if_pos rfl]
/-- an iterator's own step -/
theorem Fm.step {c : Cx} {B : Heap} {m : Lo} {own : Ow} {s s' : Shared} {a : Addr} {P Q : Obj → Prop} {o' : Obj} (F : Fm c B m ((a, P) :: own) s) (hs : Heap.SameBut a s.heap s'.heap) (ho : s'.heap.get? a = some o') (hQ : Q o')
    (hg : s'.gens = s.gens) (hos : s'.os = s.os) (ht : s.toks ≤ s'.toks) : Fm c B m ((a, Q) :: own) s' := by
  have := F.upd (.head _) hs ho hQ hg hos ht
  rwa [setO_head] at this
/-- all but one own object stays, and what is new -/
theorem Fm.lose {c : Cx} {B : Heap} {m : Lo} {own : Ow} {s : Shared} {a : Addr} {P : Obj → Prop} {h' : Heap} {k : Nat} {d : Drawn} (F : Fm c B m ((a, P) :: own) s) (hx : Heap.ExtBut a s.heap h') (ht : s.toks ≤ k) :
    Fm c B m own { s with heap := h', toks := k, drawn := d } := by
  obtain ⟨h1, h2, h3⟩ := F.bown _ (.head _)
  have nd := F.nd
  rw [List.map_cons, List.nodup_cons] at nd
  have hns := F.ns.extBut hx (fun e => h2 e.symm)
  refine ⟨F.gg, F.gx, F.gn, fun b o hX e => hx b o (fun q => ?_) (F.keep b o hX e), Nat.le_trans F.lL (Nat.le_of_lt hns.lt), fun b o e => hx b o (fun q => ?_) (F.frz b o e), ?_, fun p hp => ?_, F.bL, F.lL, fun p hp => F.bown p (.tail _ hp), nd.2, F.gens, F.os, Nat.le_trans F.tk ht⟩
  · subst q
    rcases h3 with h3 | h3
    · exact absurd (Heap.lt_size e) (Nat.not_lt.mpr h3)
    · exact hX h3
  · subst q; rw [h1] at e; cases e
  · exact hns
  · obtain ⟨o, ho, q⟩ := F.ow p (.tail _ hp)
    exact ⟨o, hx _ _ (fun e => nd.1 (List.mem_map.mpr ⟨p, hp, e⟩)) ho, q⟩
theorem letOwned_name {x : Str} {p : Pos} {it v : Value} : letOwnedTupleGo (.Name x p) it v = pure () := rfl
/-- the iterator of a list that stays -/
theorem NX.list {c : Cx} {B0 : Heap} {it l : Addr} {vs : List Value} {x : Str} {p : Pos} (hh : c.A.handled = none) (hG : Ls B0 l vs) (i : Nat) :
    NX c B0 it (isLI l) i (decide (i < vs.length)) (.Name x p) fun _ v => vs[i]? = some v :=
  ⟨fun B m own s Q E b F h1 h2 => by
    obtain ⟨o, ho, hc, hd⟩ := F.ow _ (.head _)
    have hl := ((hG.ext b.ext).ext F.frz).list
    have hit : s.heap.IsListIter it l i := ⟨o, ho, hc, hd⟩
    by_cases hi : i < vs.length
    · have hx : vs.toArray[i]? = some vs[i] := by simp [hi]
      with_reducible refine wpAny_pyNext_list_item (it := it) (l := l) (i := i) hit hl hx fun h' hit hs => h1 (decide_eq_true hi) _ _ fun Q' E' q' => ?_
      rw [letOwned_name]
      obtain ⟨o', ho', hc', hd'⟩ := hit
      have F' : Fm c B m ((it, isLI l (i + 1)) :: own) { s with heap := h' } := F.step hs ho' ⟨hc', hd'⟩ rfl rfl (Nat.le_refl _)
      with_reducible exact wpAny_pure (q' _ B (Bs.refl _ _) (by simp [hi]) F')
    · have hx : vs.toArray[i]? = none := by simp; omega
      with_reducible refine wpAny_pyNext_list_end (it := it) (l := l) (i := i) hh hit hl hx fun h' hx => h2 (decide_eq_false hi) _ ?_
      exact F.lose (k := s.toks) (d := s.drawn) hx (Nat.le_refl _)⟩
theorem GV.iterL {c : Cx} {B : Heap} {m : Lo} {own : Ow} {l : Addr} {vs : List Value} (hl : Ls B l vs) : GV c B m own (pyIter (.ref l)) fun B2 w => ∃ it, w = .ref it ∧ B.get? it = none ∧ (∃ o, B2.get? it = some o ∧ isLI l 0 o) :=
  GV.grow fun s Q E F q => by
    with_reducible refine wpAny_pyIter_list (hl.ext F.frz).list ?_
    refine q _ _ ⟨fun b o e => Heap.get?_push_of_some _ e, by simp, rfl, rfl⟩ fun B' b x hn => ⟨_, rfl, ?_, _, hn _ _ (Nat.le_refl _) (Heap.get?_push_size _ rfl), rfl, rfl⟩
    cases e : B.get? s.heap.objs.size with
    | none => rfl
    | some o => exact absurd (Heap.lt_size (F.frz _ _ e)) (Nat.lt_irrefl _)
/-! calls of the text's own functions -/
noncomputable def retv : Flow → Value
  | .ret v => v
  | _ => .none
structure FnK (w : World) (f : Addr) (fd : FuncData) : Prop where
  at' : ∃ oc od osl, (KK w).lookup f = some ⟨oc, od, .func fd, osl⟩
  code : codeIn (KK w) fd.code fd.qualname = true
noncomputable abbrev sub (c : Cx) (fd : FuncData) (f : Addr) (s : Shared) : Cx := ⟨c.w, c.A.deeper (callEnv fd s.heap.objs.size f), c.G, s, fun _ => False, callEnv fd s.heap.objs.size f⟩
theorem Fm.back {c c' : Cx} {B B' : Heap} {m m' : Lo} {own own' : Ow} {s s' : Shared} (F : Fm c B m own s) (F' : Fm c' B' m' own' s') (h0 : c'.s₀ = s) (hX : ∀ b, ¬ c'.X b) (b : Bs s.heap.objs.size B B') : Fm c B' m own s' := by
  have hk : ∀ b o, s.heap.get? b = some o → s'.heap.get? b = some o := fun b o e => F'.keep b o (hX b) (h0 ▸ e)
  have hsz : s.heap.objs.size ≤ s'.heap.objs.size := by have := F'.size; rw [← h0]; exact this
  refine ⟨F.gg, F.gx.trans b.ext, F.gn, fun p o h e => hk _ _ (F.keep p o h e), Nat.le_trans F.size hsz, F'.frz, F.ns.keeps hk, fun p hp => let ⟨o, ho, q⟩ := F.ow p hp; ⟨o, hk _ _ ho, q⟩, b.none F.bL F.ns.lt, F.lL, fun p hp => ?_, F.nd, ?_, ?_, F'.tk⟩
  · obtain ⟨o, ho, _⟩ := F.ow p hp
    exact ⟨b.none (F.bown p hp).1 (Heap.lt_size ho), (F.bown p hp).2⟩
  · have := F'.gens; rw [h0] at this; exact this.trans F.gens
  · have := F'.os; rw [h0] at this; exact this.trans F.os
theorem Fm.enter {c : Cx} {B : Heap} {m : Lo} {own : Ow} {s : Shared} {fd : FuncData} {f : Addr} {h₀ : Heap} {bi : Lo} {k : Nat} (F : Fm c B m own s) (hns : h₀.Ns s.heap.objs.size (fun x => bi.lookup x)) (hk : ∀ b o, s.heap.get? b = some o → h₀.get? b = some o) (ht : s.toks ≤ k) :
    Fm (sub c fd f s) B bi [] { s with heap := h₀, toks := k } :=
  ⟨F.gg, F.gx, Nat.le_trans F.gn F.size, fun b o _ e => hk b o e, Nat.le_of_lt hns.lt, fun b o e => hk _ _ (F.frz _ _ e), hns, (fun _ h => absurd h List.not_mem_nil), by
    show B.get? s.heap.objs.size = none
    cases q : B.get? s.heap.objs.size with
    | none => rfl
    | some o => exact absurd (Heap.lt_size (F.frz _ _ q)) (Nat.lt_irrefl _), Nat.le_refl _, (fun _ h => absurd h List.not_mem_nil), List.nodup_nil, rfl, rfl, Nat.le_trans F.tk ht⟩
section
variable {c : Cx} {B : Heap} {m : Lo} {own : Ow}
theorem FnK.get {w : World} {f : Addr} {fd : FuncData} {h : Heap} (x : FnK w f fd) (k : (KK w).In h) : ∃ o, h.get? f = some o ∧ o.data = .func fd := let ⟨oc, od, osl, e⟩ := x.at'; ⟨_, k _ _ e, rfl⟩
theorem GV.fn {f : Addr} {fd : FuncData} {body : List Stmt} {args : List Value} {binds : List (Str × Value)} {R : Heap → Value → Prop} (hf : FnK c.w f fd) (hbody : fd.body = .stmts body) (room : c.A.depth < recursionLimit)
    (hbind : ∀ s : Shared, (KK c.w).In s.heap → BindsTo s fd ⟨args, []⟩ binds) (hcell : ∀ x ∈ fd.scope.names, x.2 ≠ .cell) (hloc : ∀ x ∈ binds, fd.scope.names.lookup x.1 = some .local)
    (hco : fd.scope.isCoroutine = false) (hgen : fd.scope.isGenerator = false) (hk : fd.scope.kind = .function)
    (h : ∀ s, XW (sub c fd f s) B binds.reverse [] (execs body (sub c fd f s).env) fun fl B' _ _ => R B' (retv fl)) : GV c B m own (call (.ref f) args) R :=
  ⟨fun s Q E F q => by
    have kk := F.gl.k.keeps F.frz
    obtain ⟨o, ho, hd⟩ := hf.get kk
    with_reducible refine wpAny_call (codeAny_call_def room ho hd (F.gl.lim.keeps F.frz) (codeRec_of kk hf.code) hbody (hbind s kk) hcell hloc (fun h₀ hns hk₀ => ?_) hco hgen hk)
    have F1 := F.enter (fd := fd) (f := f) (k := s.toks + binds.length) hns hk₀ (Nat.le_add_right _ _)
    with_reducible refine (h s).run _ _ _ F1 fun fl s' B' m' own' b F' r => ?_
    have := q (retv fl) s' B' (b.low F.size) (F.back F' rfl (fun _ h => h) b) r
    cases fl <;> exact this⟩
theorem AV.nil {pos : Pos} {R : Heap → List Value → Prop} (h : ∀ B', Bs c.n B B' → R B' []) : AV c B m own pos [] R :=
  ⟨fun B' b => ⟨fun s Q E F q => by with_reducible exact args_nil (q [] s B' (Bs.refl _ _) F (h B' b))⟩⟩
theorem AV.cons {pos : Pos} {e : Expr} {rest : List Expr} {R1 : Heap → Value → Prop} {R : Heap → List Value → Prop} (he : EV c B m own e R1)
    (h : ∀ B1 v, Bs c.n B B1 → R1 B1 v → AV c B1 m own pos rest fun B2 vs => R B2 (v :: vs)) (hs : ∀ env, starEach (e :: rest) env = (false, eval e env) :: starEach rest env) : AV c B m own pos (e :: rest) R :=
  ⟨fun B' b => ⟨fun s Q E F q => by
    with_reducible exact args_cons ((he.run B' b).run s _ E F fun v s1 B1 b1 F1 r1 => ((h B1 v (b.trans b1) r1).run B1 (Bs.refl _ _)).run s1 _ E F1 fun vs s2 B2 b2 F2 r2 => q (v :: vs) s2 B2 (b1.trans b2) F2 r2) (hs _)⟩⟩
theorem EV.callF {x : Str} {p pos : Pos} {e : Expr} {rest : List Expr} {f : Addr} {fd : FuncData} {R : Heap → Value → Prop} (hx : VV c B m own (.Name x p) (.ref f)) (hf : FnK c.w f fd)
    (h : AV c B m own pos (e :: rest) fun B' vs => GV c B' m own (call (.ref f) vs) R) (hs : ∀ env, starEach (e :: rest) env = (false, eval e env) :: starEach rest env) : EV c B m own (.Call (.Name x p) (e :: rest) [] pos) R :=
  ⟨fun B' b => ⟨fun s Q E F q => by
    with_reducible refine Call_ ((hx.run B' b).run s _ E F fun v s1 B1 b1 F1 r1 => ?_) rfl
    subst r1
    obtain ⟨o, ho, hd⟩ := hf.get F1.gl.k
    with_reducible refine callWith_def (o := o) hd ((h.run B1 (b.trans b1)).run s1 _ E F1 fun vs s2 B2 b2 F2 r2 => ⟨F2.frz _ _ (b2.ext _ _ ho), r2.run s2 Q E F2 fun v s3 B3 b3 F3 r3 => q v s3 B3 (b1.trans (b2.trans b3)) F3 r3⟩) (hs _)⟩⟩
theorem EV.callB {x : Str} {p pos : Pos} {e : Expr} {rest : List Expr} {id : String} {R : Heap → Value → Prop} (hx : VV c B m own (.Name x p) (.builtin id))
    (h : AV c B m own pos (e :: rest) fun B' vs => GV c B' m own (call (.builtin id) vs) R) (hs : ∀ env, starEach (e :: rest) env = (false, eval e env) :: starEach rest env) (hp : ∀ env, (backTo pos (starEach rest env)).any (·.1) = false) : EV c B m own (.Call (.Name x p) (e :: rest) [] pos) R :=
  ⟨fun B' b => ⟨fun s Q E F q => by
    with_reducible refine Call_ ((hx.run B' b).run s _ E F fun v s1 B1 b1 F1 r1 => ?_) rfl
    subst r1
    with_reducible refine callWith_builtin1 ((h.run B1 (b.trans b1)).run s1 _ E F1 fun vs s2 B2 b2 F2 r2 => r2.run s2 Q E F2 fun v s3 B3 b3 F3 r3 => q v s3 B3 (b1.trans (b2.trans b3)) F3 r3) (hs _) (hp _)⟩⟩
end
end Mine

end
section
open PySem PySem.W PyProof.Rows
set_option Elab.async false
set_option autoImplicit false
set_option linter.unusedVariables false
namespace Mine

/-! trees that change own objects -/
structure GX (c : Cx) (B : Heap) (m : Lo) (own : Ow) (t : Sem Value) (R : Heap → Ow → Value → Prop) : Prop where
  run : ∀ s Q E, Fm c B m own s → (∀ v s' B' own', Bs c.n B B' → Fm c B' m own' s' → R B' own' v → Q v s') → wpAny (Md c.w) c.A t Q E s
structure EX (c : Cx) (B : Heap) (m : Lo) (own : Ow) (e : Expr) (R : Heap → Ow → Value → Prop) : Prop where
  run : ∀ B', Bs c.n B B' → GX c B' m own (eval e c.env) R
section
variable {c : Cx} {B : Heap} {m : Lo} {own : Ow} {K : Flow → Heap → Lo → Ow → Prop} {rest : List Stmt}
theorem GX.of {t : Sem Value} {R : Heap → Ow → Value → Prop} (h : GV c B m own t fun B' v => R B' own v) : GX c B m own t R :=
  ⟨fun s Q E F q => by with_reducible exact h.run s Q E F fun v s' B' b F' r => q v s' B' own b F' r⟩
theorem EX.of {e : Expr} {R : Heap → Ow → Value → Prop} (h : EV c B m own e fun B' v => R B' own v) : EX c B m own e R := ⟨fun B' b => GX.of (h.run B' b)⟩
theorem XW.exprX {e : Expr} {pos : Pos} (h : EX c B m own e fun B' own' _ => XW c B' m own' (execs rest c.env) K) (hi : interactive c.env = false) (hs : swapsWith e none pos.line c.env = pure false) : XW c B m own (execs (.Expr e pos :: rest) c.env) K :=
  XW.cons ⟨fun s Q E F q => by
    with_reducible refine wpAny_Expr_any ((h.run B (Bs.refl _ _)).run s _ E F fun v s1 B1 own1 b1 F1 r1 => ?_) hi hs
    exact q _ s1 B1 m own1 b1 F1 r1⟩
theorem XW.assignX {x : Str} {e : Expr} {pos pos' : Pos} (h : EX c B m own e fun B' own' v => XW c B' (put m x v) own' (execs rest c.env) K) (hl : c.env.kindOf x = some .local) (hk : c.env.scope.kind = .function)
    (hs : swapsWith e (some (.Name x pos')) pos.line c.env = pure false) : XW c B m own (execs (.Assign [.Name x pos'] e pos :: rest) c.env) K :=
  XW.cons ⟨fun s Q E F q => by
    with_reducible refine wpAny_Assign_Name ((h.run B (Bs.refl _ _)).run s _ E F fun v s1 B1 own1 b1 F1 r1 => ?_) hs
    exact GV.sto (K := fun _ _ => True) hl hk s1 _ E F1 fun s2 F2 => q .next s2 B1 _ _ b1 F2 r1⟩
theorem XW.augX {x : Str} {op : Operator} {e : Expr} {pos pos' : Pos} {old : Value} {R : Heap → Ow → Value → Prop} (ho : m.lookup x = some old) (he : EX c B m own e R)
    (h : ∀ B1 own1 v, Bs c.n B B1 → R B1 own1 v → GV c B1 m own1 (inplaceOp op old v) fun B' v => XW c B' (put m x v) own1 (execs rest c.env) K) (hl : c.env.kindOf x = some .local) (hk : c.env.scope.kind = .function) :
    XW c B m own (execs (.AugAssign (.Name x pos') op e pos :: rest) c.env) K :=
  XW.cons ⟨fun s Q E F q => by
    with_reducible refine wpAny_AugAssign_Name (wpAny_loadName_local hk hl F.ns ho ((he.run B (Bs.refl _ _)).run s _ E F fun v s1 B1 own1 b1 F1 r1 => (h B1 own1 v b1 r1).run s1 _ E F1 fun r s2 B2 b2 F2 r2 => ?_))
    exact GV.sto (K := fun _ _ => True) hl hk s2 _ E F2 fun s3 F3 => q .next s3 B2 _ _ (b1.trans b2) F3 r2⟩

/-! methods -/
noncomputable abbrev MC (c : Cx) (o : Expr) (name : Str) (apos pos : Pos) (args : List Expr) : Prop := ∃ pl, eval (.Call (.Attribute o name apos) args [] pos) c.env = (do
      let ov ← eval o c.env
      standAt apos.atName
      let (f, first) ← holding [ov] (getMethod ov name pl)
      callWith pos f first (backTo pos (starEach args c.env)) [])
theorem EV.strM0 {o : Expr} {name : Str} {apos pos : Pos} {x : Str} {id : String} {R : Heap → Value → Prop} (ho : SV c B m own o x) (slot : Slot "str" name id) (hty : typeOf (.builtin id) = pure (.type "method_descriptor"))
    (h : ∀ B1 t, Bs c.n B B1 → GV c B1 m own (call (.builtin id) [.str x t]) R) (hm : MC c o name apos pos []) : EV c B m own (.Call (.Attribute o name apos) [] [] pos) R :=
  ⟨fun B' b => ⟨fun s Q E F q => by
    obtain ⟨pl, he⟩ := hm
    with_reducible refine MethodCall_ (pl := pl) ((ho.run B' b).run s _ E F fun v s1 B1 b1 F1 r1 => ?_) he
    obtain ⟨t, rfl⟩ := r1
    with_reducible refine getMethod_builtin (typeIs_str _ _ _) PySem.F.plainAttrs_str slot hty (fun a e => by cases e) (callWith_method0 ?_)
    with_reducible exact (h B1 t (b.trans b1)).run s1 _ E F1 fun v s2 B2 b2 F2 r2 => q v s2 B2 (b1.trans b2) F2 r2⟩⟩
theorem EV.strM {o e : Expr} {rest : List Expr} {name : Str} {apos pos : Pos} {x : Str} {id : String} {R : Heap → Value → Prop} (ho : SV c B m own o x) (slot : Slot "str" name id) (hty : typeOf (.builtin id) = pure (.type "method_descriptor"))
    (h : AV c B m own pos (e :: rest) fun B1 vs => ∀ t, GV c B1 m own (call (.builtin id) (.str x t :: vs)) R) (hm : MC c o name apos pos (e :: rest))
    (hs : ∀ env, starEach (e :: rest) env = (false, eval e env) :: starEach rest env) (hp : ∀ env, (backTo pos (starEach rest env)).any (·.1) = false) : EV c B m own (.Call (.Attribute o name apos) (e :: rest) [] pos) R :=
  ⟨fun B' b => ⟨fun s Q E F q => by
    obtain ⟨pl, he⟩ := hm
    with_reducible refine MethodCall_ (pl := pl) ((ho.run B' b).run s _ E F fun v s1 B1 b1 F1 r1 => ?_) he
    obtain ⟨t, rfl⟩ := r1
    with_reducible refine getMethod_builtin (typeIs_str _ _ _) PySem.F.plainAttrs_str slot hty (fun a e => by cases e) (callWith_method1 ((h.run B1 (b.trans b1)).run s1 _ E F1 fun vs s2 B2 b2 F2 r2 => ?_) (hs _) (hp _))
    show wpAny _ _ (call (.builtin id) (.str x t :: vs)) _ _ _
    with_reducible exact (r2 t).run s2 _ E F2 fun v s3 B3 b3 F3 r3 => q v s3 B3 (b1.trans (b2.trans b3)) F3 r3⟩⟩
/-- a method of an own list, one argument that may itself change own objects -/
theorem EX.listM {o e : Expr} {name : Str} {apos pos : Pos} {a : Addr} {vs : List Value} {id : String} {R1 R : Heap → Ow → Value → Prop} (ho : VV c B m own o (.ref a)) (ha : (a, isL vs) ∈ own) (slot : Slot "list" name id) (hty : typeOf (.builtin id) = pure (.type "method_descriptor"))
    (he : EX c B m own e R1) (h : ∀ B1 own1 v, Bs c.n B B1 → R1 B1 own1 v → GX c B1 m own1 (call (.builtin id) [.ref a, v]) R) (hm : MC c o name apos pos [e])
    (hs : ∀ env, starEach [e] env = (false, eval e env) :: starEach [] env) : EX c B m own (.Call (.Attribute o name apos) [e] [] pos) R :=
  ⟨fun B' b => ⟨fun s Q E F q => by
    obtain ⟨pl, hm⟩ := hm
    with_reducible refine MethodCall_ (pl := pl) ((ho.run B' b).run s _ E F fun v s1 B1 b1 F1 r1 => ?_) hm
    subst r1
    obtain ⟨ob, hob, hL⟩ := F1.ow _ ha
    have hls : Ls s1.heap a vs := ⟨ob, hob, hL⟩
    with_reducible refine getMethod_builtin hls.list.typeIs PySem.F.plainAttrs_list slot hty (fun a' e => ?_) (callWith_method1 (args_cons ((he.run B1 (b.trans b1)).run s1 _ E F1 fun v s2 B2 own2 b2 F2 r2 => args_nil ?_) (hs _)) (hs _) rfl)
    · cases e
      obtain ⟨n, rfl⟩ := hL
      exact ⟨_, hob, rfl⟩
    · show wpAny _ _ (call (.builtin id) [.ref a, v]) _ _ _
      with_reducible exact (h B2 own2 v (b.trans (b1.trans b2)) r2).run s2 _ E F2 fun v s3 B3 own3 b3 F3 r3 => q v s3 B3 own3 (b1.trans (b2.trans b3)) F3 r3⟩⟩
theorem mapSeq_list {vs ws : List Value} {n : Nat} {f : Array Value → Array Value} (h : f vs.toArray = ws.toArray) : isL ws (Obj.mapSeq f { cls := .type "list", data := .seq vs.toArray n }) := by
  unfold Obj.mapSeq
  dsimp only
  rw [h]
  exact ⟨_, rfl⟩
theorem setO_split {pre post : Ow} {a : Addr} {P Q : Obj → Prop} (nd : ((pre ++ (a, P) :: post).map (·.1)).Nodup) : setO (pre ++ (a, P) :: post) a Q = pre ++ (a, Q) :: post := by
  induction pre with
  | nil => exact setO_head
  | cons p r ih =>
    obtain ⟨b, R⟩ := p
    rw [List.cons_append, List.map_cons, List.nodup_cons] at nd
    have : a ≠ b := fun e => nd.1 (by rw [← e]; simp)
    show setO ((b, R) :: (r ++ (a, P) :: post)) a Q = (b, R) :: (r ++ (a, Q) :: post)
    unfold setO
    rw [if_neg this, ih nd.2]
theorem mem_mid {pre post : Ow} {p : Addr × (Obj → Prop)} : p ∈ pre ++ p :: post := List.mem_append.mpr (.inr (.head _))
theorem Fm.mapL {s : Shared} {a : Addr} {pre post : Ow} {vs ws : List Value} {f : Array Value → Array Value} (F : Fm c B m (pre ++ (a, isL vs) :: post) s) (h : f vs.toArray = ws.toArray) : Fm c B m (pre ++ (a, isL ws) :: post) { s with heap := s.heap.update a (Obj.mapSeq f) } := by
  obtain ⟨o, ho, n, rfl⟩ := F.ow _ mem_mid
  rw [← setO_split (Q := isL ws) F.nd]
  have ha : (a, isL vs) ∈ pre ++ (a, isL vs) :: post := mem_mid
  exact F.upd (s' := { s with heap := s.heap.update a (Obj.mapSeq f) }) ha (Heap.SameBut.update ..) (Heap.get?_update_self _ ho rfl) (mapSeq_list h) rfl rfl (Nat.le_refl _)
theorem GX.mono {t : Sem Value} {R R' : Heap → Ow → Value → Prop} (h : GX c B m own t R) (k : ∀ B' own' v, Bs c.n B B' → R B' own' v → R' B' own' v) : GX c B m own t R' :=
  ⟨fun s Q E F q => by with_reducible exact h.run s Q E F fun v s' B' own' b F' r => q v s' B' own' b F' (k B' own' v b r)⟩
theorem EX.mono {e : Expr} {R R' : Heap → Ow → Value → Prop} (h : EX c B m own e R) (k : ∀ B' own' v, Bs c.n B B' → R B' own' v → R' B' own' v) : EX c B m own e R' := ⟨fun B' b => (h.run B' b).mono fun B2 own' v b' r => k B2 own' v (b.trans b') r⟩
theorem gx_append {a : Addr} {pre post : Ow} {vs : List Value} {v : Value} (hz : vs.length ≤ sizeLine) : GX c B m (pre ++ (a, isL vs) :: post) (call (.builtin "list.append") [.ref a, v]) fun B' own' r => B' = B ∧ own' = pre ++ (a, isL (vs ++ [v])) :: post ∧ r = .none :=
  ⟨fun s Q E F q => by
    obtain ⟨o, ho, n, rfl⟩ := F.ow _ mem_mid
    have hT : s.TypeIs (.ref a) "list" := ⟨_, ho, rfl⟩
    with_reducible refine call_meets PySem.F.slot_list_append hT PySem.F.entry_list_append (PySem.F.args_list_append_2 _ _) (PySem.list_append a vs.toArray n v (by simpa using hz)) ⟨ho, ?_⟩
    exact q _ _ B _ (Bs.refl _ _) (F.mapL (by simp)) ⟨rfl, rfl, rfl⟩⟩
theorem gx_pop {a : Addr} {pre post : Ow} {vs : List Value} {v : Value} {u : Tok} (hz : vs.length < sizeLine) : GX c B m (pre ++ (a, isL (v :: vs)) :: post) (call (.builtin "list.pop") [.ref a, .int 0 u]) fun B' own' r => B' = B ∧ own' = pre ++ (a, isL vs) :: post ∧ r = v :=
  ⟨fun s Q E F q => by
    obtain ⟨o, ho, n, rfl⟩ := F.ow _ mem_mid
    have hT : s.TypeIs (.ref a) "list" := ⟨_, ho, rfl⟩
    with_reducible refine call_meets PySem.F.slot_list_pop hT PySem.F.entry_list_pop (PySem.F.args_list_pop_2 _ _) (PySem.MeetsSeq.list_pop_at a (v :: vs).toArray n 0 u 0 v (by decide) (by simp [seqIndex?]) (by simp) (by simp; omega)) ⟨ho, ?_⟩
    exact q _ _ B _ (Bs.refl _ _) (F.mapL (by simp)) ⟨rfl, rfl, rfl⟩⟩
/-! lists -/
theorem sizeOk_list {vs : List Value} {n : Nat} (h : vs.length ≤ sizeLine) : sizeOk (.seq vs.toArray n) := by
  show vs.toArray.size ≤ sizeLine
  simpa using h
theorem EV.list {elts : List Expr} {pos : Pos} {R : Heap → List Value → Prop} (h : AV c B m own pos elts R) (hz : ∀ B1 vs, R B1 vs → vs.length ≤ sizeLine) (hR : ∀ B1 B2 vs, Ext B1 B2 → R B1 vs → R B2 vs) :
    EV c B m own (.List elts pos) fun B1 v => ∃ a vs, v = .ref a ∧ B.get? a = none ∧ Ls B1 a vs ∧ R (less B1 a) vs :=
  ⟨fun B' b => ⟨fun s Q E F q => by
    with_reducible refine List_ ((h.run B' b).run s _ E F fun vs s1 B1 b1 F1 r1 => wpAny_newObj_type ?_ (sizeOk_list (hz _ _ r1)))
    have g : Grow s1 { s1 with heap := s1.heap.push { cls := .type "list", data := .seq vs.toArray } } := ⟨fun b o e => Heap.get?_push_of_some _ e, by simp, rfl, rfl⟩
    obtain ⟨b2, F2⟩ := F1.grow g F1.tk
    have hn : B1.get? s1.heap.objs.size = none := by
      cases e : B1.get? s1.heap.objs.size with
      | none => rfl
      | some o => exact absurd (Heap.lt_size (F1.frz _ _ e)) (Nat.lt_irrefl _)
    have b2' := b2.low F1.size
    refine q _ _ _ (b1.trans b2') F2 ⟨_, vs, rfl, ?_, ⟨_, grown_new (Heap.get?_push_size _ rfl) (Nat.le_refl _), 0, rfl⟩, hR _ _ _ (less_bs b2' hn).ext r1⟩
    cases e : B.get? s1.heap.objs.size with
    | none => rfl
    | some o => rw [(b.trans b1).ext _ _ e] at hn; cases hn⟩⟩
theorem gv_add_list {a b : Addr} {xs ys : List Value} (ha : Ls B a xs) (hb : Ls B b ys) (hz : xs.length + ys.length ≤ sizeLine) :
    GV c B m own (binaryOp .Add (.ref a) (.ref b)) fun B1 v => ∃ r, v = .ref r ∧ B.get? r = none ∧ Ls B1 r (xs ++ ys) :=
  GV.grow fun s Q E F q => by
    obtain ⟨o, ho, n, rfl⟩ := ha
    obtain ⟨o', ho', n', rfl⟩ := hb
    have h1 : IsL s.heap a xs.toArray n := F.frz _ _ ho
    have h2 : IsL s.heap b ys.toArray n' := F.frz _ _ ho'
    with_reducible refine P.add_list h1 h2 ?_ (by simpa using hz)
    refine q _ _ ⟨fun b o e => Heap.get?_push_of_some _ e, by simp, rfl, rfl⟩ fun B' b' x hn => ⟨_, rfl, ?_, _, hn _ _ (Nat.le_refl _) (Heap.get?_push_size _ rfl), 0, by simp⟩
    cases e : B.get? s.heap.objs.size with
    | none => rfl
    | some o => exact absurd (Heap.lt_size (F.frz _ _ e)) (Nat.lt_irrefl _)
theorem EV.sub {value slice : Expr} {pos : Pos} {R1 R : Heap → Value → Prop} (hv : EV c B m own value R1)
    (hi : ∀ B1 o, Bs c.n B B1 → R1 B1 o → EV c B1 m own slice fun B2 i => GV c B2 m own (subscriptTail value slice o i) R) : EV c B m own (.Subscript value slice pos) R :=
  ⟨fun B' b => ⟨fun s Q E F q => by
    with_reducible exact Subscript_ ((hv.run B' b).run s _ E F fun o s1 B1 b1 F1 r1 => ((hi B1 o (b.trans b1) r1).run B1 (Bs.refl _ _)).run s1 _ E F1 fun i s2 B2 b2 F2 r2 =>
      r2.run s2 Q E F2 fun v s3 B3 b3 F3 r3 => q v s3 B3 (b1.trans (b2.trans b3)) F3 r3)⟩⟩
theorem gv_tail_list {value slice : Expr} {a : Addr} {vs : List Value} {k : Int} {u : Tok} {v : Value} {ops : List Value} (ha : Ls B a vs) (h0 : 0 ≤ k) (hk : k < 2 ^ 63) (hv : vs[k.toNat]? = some v)
    (hs : subscripted slice false (.ref a) (.int k u) = operate ops (getItem (.ref a) (.int k u))) : GV c B m own (subscriptTail value slice (.ref a) (.int k u)) fun _ r => r = v :=
  GV.still fun s Q E F q => by
    have hl := (ha.ext F.frz).list
    with_reducible exact tail_any hl.typeIs slot_list_getitem.lookup (wpAny_getItem_list hl h0 hk (by simpa using hv) (q v s.toks s.drawn rfl)) hs
end
end Mine

end
section
open PySem PySem.W PyProof.Rows
set_option Elab.async false
set_option autoImplicit false
set_option linter.unusedVariables false
namespace Mine
section
variable {c : Cx} {B : Heap} {m : Lo} {own : Ow}

theorem add_eq (x y : Str) : (if x.length == 0 then y else if y.length == 0 then x else x ++ y) = x ++ y := by
  split
  · rename_i h
    have : x = Str.empty := by obtain ⟨⟨l⟩⟩ := x; simp [Str.length] at h; subst h; rfl
    rw [this, PySem.Str.empty_append]
  · split
    · rename_i h
      have : y = Str.empty := by obtain ⟨⟨l⟩⟩ := y; simp [Str.length] at h; subst h; rfl
      rw [this, PySem.Str.append_empty]
    · rfl
theorem add_post {x y : Str} {t u : Tok} {s : Shared} {Q : Value → Shared → Prop} (hz : x.length + y.length ≤ sizeLine) (h : ∀ v k d, (∃ t, v = .str (x ++ y) t) → Q v { s with toks := k, drawn := d }) :
    (if x.length == 0 then Made.val (.str y u) else if y.length == 0 then Made.val (.str x t) else Made.str (x ++ y)).post Q s := by
  have e := add_eq x y
  split
  · rename_i hx
    rw [if_pos hx] at e
    exact h _ s.toks s.drawn ⟨u, by rw [← e]⟩
  · rename_i hx
    rw [if_neg hx] at e
    split
    · rename_i hy
      rw [if_pos hy] at e
      exact h _ s.toks s.drawn ⟨t, by rw [← e]⟩
    · exact ⟨by rw [PySem.Str.length_append]; exact hz, h _ _ s.drawn ⟨_, rfl⟩⟩
theorem gv_add_str {x y : Str} {t u : Tok} (hz : x.length + y.length ≤ sizeLine) : GV c B m own (binaryOp .Add (.str x t) (.str y u)) fun _ v => ∃ t, v = .str (x ++ y) t :=
  GV.still fun s Q E F q => by with_reducible exact P.add_str (add_post hz q)
theorem gv_iadd_str {x y : Str} {t u : Tok} (hz : x.length + y.length ≤ sizeLine) : GV c B m own (inplaceOp .Add (.str x t) (.str y u)) fun _ v => ∃ t, v = .str (x ++ y) t :=
  GV.still fun s Q E F q => by with_reducible exact P.iadd_str (add_post hz q)
theorem gv_iadd_int {x y : Int} {t u : Tok} : GV c B m own (inplaceOp .Add (.int x t) (.int y u)) fun _ v => ∃ t, v = .int (x + y) t :=
  GV.still fun s Q E F q => by with_reducible exact PyProof.Rows.iadd_int (q _ _ s.drawn ⟨_, rfl⟩)
theorem SV.add {l r : Expr} {pos : Pos} {x y : Str} (hl : SV c B m own l x) (hr : SV c B m own r y) (hz : x.length + y.length ≤ sizeLine) : SV c B m own (.BinOp l .Add r pos) (x ++ y) :=
  EV.binop hl fun B1 a b1 ⟨t, ea⟩ => (hr.bs b1).mono fun B2 v b2 ⟨u, ev⟩ => by subst ea ev; exact gv_add_str hz
theorem TV.inS {l r : Expr} {pos : Pos} {x y : Str} (hl : SV c B m own l y) (hr : SV c B m own r x) (hm : behindInMarks .In r = false) : TV c B m own (.Compare l [.In] [r] pos) (Txt.contains x y) :=
  TV.cmp hl (fun B1 a b1 ⟨t, ea⟩ => (hr.bs b1).mono fun B2 v b2 ⟨u, ev⟩ => by subst ea ev; exact GV.still fun s Q E F q => by with_reducible exact P.in_str (q _ s.toks s.drawn rfl)) hm
theorem TV.notInS {l r : Expr} {pos : Pos} {x y : Str} (hl : SV c B m own l y) (hr : SV c B m own r x) (hm : behindInMarks .NotIn r = false) : TV c B m own (.Compare l [.NotIn] [r] pos) (!Txt.contains x y) :=
  TV.cmp hl (fun B1 a b1 ⟨t, ea⟩ => (hr.bs b1).mono fun B2 v b2 ⟨u, ev⟩ => by subst ea ev; exact GV.still fun s Q E F q => by with_reducible exact P.notIn_str (q _ s.toks s.drawn rfl)) hm
theorem gv_len_str {x : Str} {t : Tok} (hz : x.length < 2 ^ 62) : GV c B m own (call (.builtin "len") [.str x t]) fun _ v => ∃ t, v = .int x.length t :=
  GV.still fun s Q E F q => by with_reducible exact P.len_str (by omega) (q _ _ s.drawn ⟨_, rfl⟩)
theorem IV.lenS {e : Expr} {p pos : Pos} {x : Str} (hl : VV c B m own (.Name "len" p) (.builtin "len")) (he : SV c B m own e x) (hz : x.length < 2 ^ 62) (hs : ∀ env, starEach [e] env = (false, eval e env) :: starEach [] env) : IV c B m own (.Call (.Name "len" p) [e] [] pos) x.length :=
  EV.callB hl (AV.cons he (fun B1 v b ⟨t, ev⟩ => AV.nil fun B2 b2 => by subst ev; exact gv_len_str hz) hs) hs fun _ => rfl
theorem gv_truthy_str {x : Str} {t : Tok} (hz : x.length < 2 ^ 62) : GV c B m own (truthy (.str x t)) fun _ y => y = (x != Str.empty) :=
  GV.still fun s Q E F q => by
    have e : (x != Str.empty) = ((x.length : Int) != 0) := by
      obtain ⟨⟨l⟩⟩ := x
      cases l <;> rfl
    with_reducible exact P.truthy_str (by omega) (q _ _ s.drawn e.symm)
theorem TV.truthS {e : Expr} {x : Str} (h : SV c B m own e x) (hz : x.length < 2 ^ 62) (he : ∀ whole, isTrue e c.env whole = (do let v ← whole; standAt e.pos; holding [v] (truthy v))) : TV c B m own e (x != Str.empty) :=
  TV.val h (fun B1 v b ⟨t, ev⟩ => by subst ev; exact gv_truthy_str hz) he

/-! the library's rules over Fr and News -/
theorem cut_get (h : Heap) (L b : Nat) : (⟨h.objs.extract 0 L, h.life⟩ : Heap).get? b = if b < L then h.get? b else none := by
  have e : (h.objs.extract 0 L)[b]? = if b < L then h.objs[b]? else none := by
    rw [Array.getElem?_extract]
    simp only [Nat.sub_zero, Nat.zero_add]
    by_cases hb : b < L
    · rw [if_pos hb]
      by_cases hs : b < h.objs.size
      · rw [if_pos (by omega)]
      · rw [if_neg (by omega)]; simp [hs]
    · rw [if_neg hb, if_neg (by omega)]
  unfold Heap.get?
  dsimp only
  rw [e]
  by_cases hb : b < L
  · rw [if_pos hb, if_pos hb]
  · rw [if_neg hb, if_neg hb]
theorem cut_size (h : Heap) (L : Nat) : (⟨h.objs.extract 0 L, h.life⟩ : Heap).objs.size ≤ L := by simp; omega
theorem Fm.fr {s : Shared} (F : Fm c B m own s) : ∃ (h₀ : Heap) (news : List (Addr × Obj)), Fr h₀ c.L s.heap (fun x => m.lookup x) ∧ News h₀ c.L s.heap news ∧
    ∀ h' new, Fr h₀ c.L h' (fun x => m.lookup x) → News h₀ c.L h' (new ++ news) → ∀ b o, b ≠ c.L → s.heap.get? b = some o → h'.get? b = some o := by
  have cut := cut_get s.heap c.L
  refine ⟨⟨s.heap.objs.extract 0 c.L, s.heap.life⟩, (List.range s.heap.objs.size).filterMap fun a => if Nat.blt c.L a then (s.heap.get? a).map fun o => (a, o) else none, ⟨F.ns, fun b o e => ?_, cut_size _ _⟩, fun p hp => ?_, fun h' new fr nw b o hb e => ?_⟩
  · rw [cut] at e
    split at e
    · exact e
    · cases e
  · obtain ⟨a, ha, e⟩ := List.mem_filterMap.mp hp
    split at e
    · rename_i hgt
      cases q : s.heap.get? a with
      | none => rw [q] at e; cases e
      | some o =>
        rw [q] at e
        cases e
        exact ⟨q, (Nat.ne_of_lt (Nat.le_of_ble_eq_true hgt)).symm, by rw [cut, if_neg (Nat.not_lt.mpr (Nat.le_of_lt (Nat.le_of_ble_eq_true hgt)))]⟩
    · cases e
  · by_cases hlt : b < c.L
    · exact fr.keep b o (by rw [cut, if_pos hlt]; exact e)
    · have hgt : Nat.blt c.L b = true := Nat.ble_eq_true_of_le (Nat.lt_of_le_of_ne (Nat.not_lt.mp hlt) (fun q => hb q.symm))
      exact (nw (b, o) (List.mem_append.mpr (.inr (List.mem_filterMap.mpr ⟨b, List.mem_range.mpr (Heap.lt_size e), by rw [if_pos hgt, e]; rfl⟩)))).1
theorem Fm.growL {s s' : Shared} (F : Fm c B m own s) (hx : ∀ b o, b ≠ c.L → s.heap.get? b = some o → s'.heap.get? b = some o) (hns : s'.heap.Ns c.L (fun x => m.lookup x)) (hg : s'.gens = s.gens) (ho : s'.os = s.os) (ht : 1 ≤ s'.toks) :
    Bs s.heap.objs.size B (grown B s s') ∧ Fm c (grown B s s') m own s' := by
  have nL : ∀ b o, B.get? b = some o → b ≠ c.L := fun b o e q => by rw [q, F.bL] at e; cases e
  have hx' : Ext B (grown B s s') := fun b o e => by
    unfold grown; rw [restr_get, if_pos (by rw [e]; rfl)]; exact hx _ _ (nL b o e) (F.frz _ _ e)
  have hn : ∀ b o, (grown B s s').get? b = some o → B.get? b = some o ∨ s.heap.objs.size ≤ b := fun b o e => by
    unfold grown at e
    rw [restr_get] at e
    split at e
    · rename_i q
      rcases Bool.or_eq_true_iff.mp q with q | q
      · left
        obtain ⟨o', q⟩ := Option.isSome_iff_exists.mp q
        have := hx _ _ (nL _ _ q) (F.frz _ _ q)
        rw [e] at this; cases this; exact q
      · exact .inr (of_decide_eq_true q)
    · cases e
  have hb : Bs s.heap.objs.size B (grown B s s') := ⟨hx', hn⟩
  refine ⟨hb, ⟨F.gg, F.gx.trans hx', F.gn, fun b o h e => hx _ _ (fun q => ?_) (F.keep b o h e), Nat.le_trans F.lL (Nat.le_of_lt hns.lt), fun b o e => ?_, hns, fun p hp => ?_, hb.none F.bL F.ns.lt, F.lL, fun p hp => ?_, F.nd, hg.trans F.gens, ho.trans F.os, ht⟩⟩
  · subst q; exact absurd (Heap.lt_size e) (Nat.not_lt.mpr F.lL)
  · unfold grown at e
    rw [restr_get] at e
    split at e
    · exact e
    · cases e
  · obtain ⟨o, ho, q⟩ := F.ow p hp
    exact ⟨o, hx _ _ (F.bown p hp).2.1 ho, q⟩
  · have := F.bown p hp
    obtain ⟨o, ho, _⟩ := F.ow p hp
    exact ⟨hb.none this.1 (Heap.lt_size ho), this.2⟩
theorem GV.growN {α : Type} {t : Sem α} {R : Heap → α → Prop} (h : ∀ s (Q : α → Shared → Prop) E h₀ news, Fm c B m own s → Fr h₀ c.L s.heap (fun x => m.lookup x) → News h₀ c.L s.heap news →
      (∀ v h' k d new, Fr h₀ c.L h' (fun x => m.lookup x) → News h₀ c.L h' (new ++ news) → (∀ B', Bs s.heap.objs.size B B' → Ext B' h' → (∀ a o, s.heap.objs.size ≤ a → h'.get? a = some o → B'.get? a = some o) → R B' v) → Q v { s with heap := h', toks := k, drawn := d }) →
      wpAny (Md c.w) c.A t Q E s) : GV c B m own t R :=
  ⟨fun s Q E F q => by
    obtain ⟨h₀, news, fr, nw, hk⟩ := F.fr
    with_reducible refine wpAny_with_toks F.tk (h s _ _ h₀ news F fr nw fun v h' k d new fr' nw' r ht => ?_)
    obtain ⟨b, F'⟩ := F.growL (s' := { s with heap := h', toks := k, drawn := d }) (hk h' new fr' nw') fr'.ns rfl rfl ht
    exact q v _ _ (b.low F.size) F' (r _ b F'.frz fun a o ha e => grown_new (s' := { s with heap := h', toks := k, drawn := d }) e ha)⟩
theorem Fm.fresh {s : Shared} (F : Fm c B m own s) : B.get? s.heap.objs.size = none := by
  cases e : B.get? s.heap.objs.size with
  | none => rfl
  | some o => exact absurd (Heap.lt_size (F.frz _ _ e)) (Nat.lt_irrefl _)
/-! texts in lists -/
noncomputable def SL (h : Heap) (a : Addr) (xs : List Str) : Prop := ∃ l : List (Str × Tok), Ls h a (strValues l) ∧ l.map (·.1) = xs
theorem SL.ext {h h' : Heap} {a : Addr} {xs : List Str} (x : SL h a xs) (e : Ext h h') : SL h' a xs := let ⟨l, hl, r⟩ := x; ⟨l, hl.ext e, r⟩
theorem gv_split {x y : Str} {t u : Tok} (hy : (y.length == 0) = false) (hz : x.length + 2 ≤ sizeLine) : GV c B m own (call (.builtin "str.split") [.str x t, .str y u]) fun B1 v => ∃ a, v = .ref a ∧ B.get? a = none ∧ SL B1 a (Txt.split x y) :=
  GV.growN fun s Q E h₀ news F fr nw q => by
    with_reducible refine splitN1 fr nw hy (fun l h' k e fr' nw' => ?_) hz
    exact q _ h' k s.drawn [_] fr' nw' fun B' b x hn => ⟨_, rfl, F.fresh, l, ⟨_, hn _ _ (Nat.le_refl _) (nw' _ (.head _)).1, 0, rfl⟩, e⟩
theorem gv_splitlines {x : Str} {t : Tok} (hz : x.length + 1 ≤ sizeLine) : GV c B m own (call (.builtin "str.splitlines") [.str x t]) fun B1 v => ∃ a, v = .ref a ∧ B.get? a = none ∧ SL B1 a (Txt.lines x) :=
  GV.growN fun s Q E h₀ news F fr nw q => by
    with_reducible refine splitlinesN fr nw (fun l h' k e fr' nw' => ?_) (by omega) (by have e := lineCuts_le x; omega)
    exact q _ h' k s.drawn [_] fr' nw' fun B' b x hn => ⟨_, rfl, F.fresh, l, ⟨_, hn _ _ (Nat.le_refl _) (nw' _ (.head _)).1, 0, rfl⟩, e⟩
end
end Mine

end
section
open PySem PySem.W PyProof.Rows
set_option Elab.async false
set_option autoImplicit false
set_option linter.unusedVariables false
namespace Mine
theorem mc_of {c : Cx} {o : Expr} {name : Str} {apos pos : Pos} {args : List Expr} (hb : ∀ w, attributeBase o name c.env w = w) (hf : methodCallForm (args.length + 0) (backTo pos (starEach args c.env)) [] = true)
    (hp : (apos.endLine == pos.line) = true) : MC c o name apos pos args := by
  refine ⟨do return (← importBound o c.env).getD true, ?_⟩
  have e : eval (.Call (.Attribute o name apos) args [] pos) c.env = (do
      let ov ← attributeBase o name c.env (eval o c.env)
      standAt apos.atName
      methodCall o name apos pos c.env ov (args.length + 0) (backTo pos (starEach args c.env)) []) := rfl
  rw [e, hb]
  have e2 : ∀ ov, methodCall o name apos pos c.env ov (args.length + 0) (backTo pos (starEach args c.env)) [] = (do
      let (f, first) ← holding [ov] (getMethod ov name (do return (← importBound o c.env).getD true))
      callWith pos f first (backTo pos (starEach args c.env)) []) := fun ov => by
    unfold methodCall calleeOf methodCallPos
    rw [hf]
    simp only [if_true, Bool.not_true, Bool.false_or, hp, pure_bind]
  simp only [e2]
section
variable {c : Cx} {B : Heap} {m : Lo} {own : Ow}
/-! slices and items of texts -/
/-- a bound of a slice: none, or an int -/
structure PV (c : Cx) (B : Heap) (m : Lo) (own : Ow) (e : Option Expr) (i : Option Int) : Prop where
  run : ∀ B', Bs c.n B B' → GV c B' m own (evalPart e c.env) fun _ v => ∃ p : Option (Int × Tok), v = partValue p ∧ p.map (·.1) = i
theorem PV.none : PV c B m own none none := ⟨fun B' b => ⟨fun s Q E F q => by
  rw [evalPart_none]
  with_reducible exact wpAny_pure (q _ s B' (Bs.refl _ _) F ⟨Option.none, rfl, rfl⟩)⟩⟩
theorem PV.some {e : Expr} {i : Int} (h : IV c B m own e i) : PV c B m own (some e) (some i) := ⟨fun B' b => ⟨fun s Q E F q => by
  rw [evalPart_some]
  with_reducible refine (h.run B' b).run s Q E F fun v s' B1 b1 F1 ⟨t, ev⟩ => ?_
  exact q v s' B1 b1 F1 ⟨Option.some (i, t), ev, rfl⟩⟩⟩
theorem EV.slice {lo hi : Option Expr} {p : Pos} {i j : Option Int} (hl : PV c B m own lo i) (hh : PV c B m own hi j) :
    EV c B m own (.Slice lo hi none p) fun B1 v => ∃ a l u, v = .ref a ∧ B1.IsSlice a l u none ∧ l.map (·.1) = i ∧ u.map (·.1) = j :=
  ⟨fun B' b => ⟨fun s Q E F q => by
    with_reducible refine wpAny_Slice ((hl.run B' b).run s _ E F fun v1 s1 B1 b1 F1 r1 => (hh.run B1 (b.trans b1)).run s1 _ E F1 fun v2 s2 B2 b2 F2 r2 => ?_)
    rw [evalPart_none]
    with_reducible refine wpAny_pure ?_
    obtain ⟨l, rfl, hl'⟩ := r1
    obtain ⟨u, rfl, hu'⟩ := r2
    have g : Grow s2 { s2 with heap := s2.heap.push { cls := .type "slice", data := .fields #[partValue l, partValue u, .none] } } := ⟨fun b o e => Heap.get?_push_of_some _ e, by simp, rfl, rfl⟩
    obtain ⟨b3, F3⟩ := F2.grow g F2.tk
    exact q _ _ _ (b1.trans (b2.trans (b3.low F2.size))) F3 ⟨_, l, u, rfl, ⟨_, grown_new (Heap.get?_push_size _ rfl) (Nat.le_refl _), rfl, rfl⟩, hl', hu'⟩⟩⟩
theorem isSlice_ext {h h' : Heap} {a : Addr} {l u st : Option (Int × Tok)} (x : h.IsSlice a l u st) (e : Ext h h') : h'.IsSlice a l u st := let ⟨o, ho, r⟩ := x; ⟨o, e _ _ ho, r⟩
theorem SV.slice {value : Expr} {lo hi : Option Expr} {p pos : Pos} {x : Str} {i j : Option Int} (hv : SV c B m own value x) (hl : PV c B m own lo i) (hh : PV c B m own hi j) (hz : x.length ≤ sizeLine)
    (hs : ∀ o a, subscripted (.Slice lo hi none p) false o a = operate [a, o] (getItem o a)) : SV c B m own (.Subscript value (.Slice lo hi none p) pos) (Txt.slice x i j) :=
  EV.sub hv fun B1 o b1 ⟨t, eo⟩ => (EV.slice (B := B1) ⟨fun B' b => hl.run B' (b1.trans b)⟩ ⟨fun B' b => hh.run B' (b1.trans b)⟩).mono fun B2 v b2 ⟨a, l, u, ev, hS, hl', hu'⟩ => by
    subst eo ev hl' hu'
    refine GV.still fun s Q E F q => ?_
    with_reducible refine tail_any (typeIs_str _ _ _) PySem.F.slot_str_getitem.lookup (wpAny_getItem_str_slice (isSlice_ext hS F.frz) rfl ?_) (hs _ _)
    exact post_val_or_str ⟨Nat.le_trans (Txt.slice_le x _ _) hz, fun t' k => q _ k s.drawn ⟨t', rfl⟩⟩
theorem SV.idx {value e : Expr} {pos : Pos} {x : Str} {i : Int} {ch : Nat} (hv : SV c B m own value x) (hi : IV c B m own e i) (h1 : -(2 ^ 62) < i) (h2 : i < 2 ^ 62) (hc : Txt.charAt x i = some ch)
    (hs : ∀ o a, subscripted e false o a = operate [o, a] (getItem o a)) : SV c B m own (.Subscript value e pos) ⟨#[ch]⟩ :=
  EV.sub hv fun B1 o b1 ⟨t, eo⟩ => (hi.bs b1).mono fun B2 v b2 ⟨u, ev⟩ => by
    subst eo ev
    unfold Txt.charAt at hc
    refine GV.still fun s Q E F q => ?_
    with_reducible exact tail_any (typeIs_str _ _ _) PySem.F.slot_str_getitem.lookup (P.getItem_str (by simp; omega) hc (q _ _ s.drawn ⟨_, rfl⟩)) (hs _ _)
/-! methods of texts -/
theorem gv_startswith {x y : Str} {t u : Tok} : GV c B m own (call (.builtin "str.startswith") [.str x t, .str y u]) fun _ v => v = .bool (Txt.startswith x y) :=
  GV.still fun s Q E F q => by with_reducible exact SC.startswith (q _ s.toks s.drawn rfl)
theorem gv_endswith {x y : Str} {t u : Tok} : GV c B m own (call (.builtin "str.endswith") [.str x t, .str y u]) fun _ v => v = .bool (Txt.endswith x y) :=
  GV.still fun s Q E F q => by with_reducible exact SC.endswith (q _ s.toks s.drawn rfl)
theorem gv_count {x y : Str} {t u : Tok} : GV c B m own (call (.builtin "str.count") [.str x t, .str y u]) fun _ v => ∃ t, v = .int (Txt.count x y) t :=
  GV.still fun s Q E F q => by with_reducible exact SC.count (q _ _ s.drawn ⟨_, rfl⟩)
theorem gv_rfind {x y : Str} {t u : Tok} : GV c B m own (call (.builtin "str.rfind") [.str x t, .str y u]) fun _ v => ∃ t, v = .int (Txt.rfind x y) t :=
  GV.still fun s Q E F q => by with_reducible exact SC.rfind (q _ _ s.drawn ⟨_, rfl⟩)
theorem gv_rstripChars {x y : Str} {t u : Tok} (hz : x.length ≤ sizeLine) : GV c B m own (call (.builtin "str.rstrip") [.str x t, .str y u]) fun _ v => ∃ t, v = .str (Txt.rstripChars x y) t :=
  GV.still fun s Q E F q => by with_reducible exact SC.rstripChars (fun t' k => q _ k s.drawn ⟨t', rfl⟩) hz
theorem gv_rstrip {x : Str} {t : Tok} (hz : x.length ≤ sizeLine) : GV c B m own (call (.builtin "str.rstrip") [.str x t]) fun _ v => ∃ t, v = .str (Txt.rstrip x) t :=
  GV.still fun s Q E F q => by with_reducible exact SC.rstrip (fun t' k => q _ k s.drawn ⟨t', rfl⟩) hz
theorem gv_join {x : Str} {t : Tok} {a : Addr} {xs : List Str} (ha : SL B a xs) (hok : JoinOk x xs = true) : GV c B m own (call (.builtin "str.join") [.str x t, .ref a]) fun _ v => ∃ t, v = .str (Txt.join x xs) t :=
  GV.still fun s Q E F q => by
    obtain ⟨l, hl, e⟩ := ha
    with_reducible exact SC.join (hl.ext F.frz).list e hok (fun t' k => q _ k s.drawn ⟨t', rfl⟩)
/-- one text argument -/
theorem EV.strM1 {o e : Expr} {name : Str} {apos pos : Pos} {x y : Str} {id : String} {R : Heap → Value → Prop} (ho : SV c B m own o x) (slot : Slot "str" name id) (hty : typeOf (.builtin id) = pure (.type "method_descriptor"))
    (he : SV c B m own e y) (h : ∀ B1 t u, GV c B1 m own (call (.builtin id) [.str x t, .str y u]) R) (hm : MC c o name apos pos [e]) (hs : ∀ env, starEach [e] env = (false, eval e env) :: starEach [] env) : EV c B m own (.Call (.Attribute o name apos) [e] [] pos) R :=
  EV.strM ho slot hty (AV.cons he (fun B1 v b ⟨u, ev⟩ => AV.nil fun B2 b2 t => by subst ev; exact h B2 t u) hs) hm hs fun _ => rfl
/-- replace: its two arguments are written texts -/
theorem SV.replace {o : Expr} {apos pos p1 p2 : Pos} {k1 k2 : Nat} {x y z : Str} (ho : SV c B m own o x) (hyz : (y == z) = false) (hx : x.length ≤ 1048576) (hz : z.length ≤ 14) (hm : MC c o "replace" apos pos [.Constant (.str y) k1 p1, .Constant (.str z) k2 p2]) :
    SV c B m own (.Call (.Attribute o "replace" apos) [.Constant (.str y) k1 p1, .Constant (.str z) k2 p2] [] pos) (Txt.replace x y z) :=
  ⟨fun B' b => ⟨fun s Q E F q => by
    obtain ⟨pl, he⟩ := hm
    with_reducible refine MethodCall_ (pl := pl) ((ho.run B' b).run s _ E F fun v s1 B1 b1 F1 r1 => ?_) he
    obtain ⟨t, rfl⟩ := r1
    have htk := F1.tk
    with_reducible refine getMethod_builtin (typeIs_str _ _ _) PySem.F.plainAttrs_str PySem.F.slot_str_replace PySem.F.type_str_replace (fun a e => by cases e) (callWith_method1 (args_cons (wpAny_Constant_str (args_cons (wpAny_Constant_str (args_nil ?_)) rfl)) rfl) rfl rfl)
    show wpAny _ _ (call (.builtin "str.replace") [.str x t, .str y _, .str z _]) _ _ _
    have h1 : s1.toks ≠ 0 := by omega
    have h2 : s1.toks + 1 ≠ 0 := by omega
    have h3 : s1.toks ≠ s1.toks + 1 := by omega
    with_reducible refine wpAny_with_toks (n := 1) (Nat.le_add_left _ _) (SC.replaceW h1 h2 h3 hyz hx hz fun t' k hk => ?_)
    exact q _ _ B1 b1 (F1.still rfl rfl rfl hk) ⟨t', rfl⟩⟩⟩
end
end Mine

end
section
open PySem PySem.W PyProof.Rows
set_option Elab.async false
set_option autoImplicit false
set_option linter.unusedVariables false
set_option maxRecDepth 100000
namespace Mine
noncomputable def fdOf (i : Nat) (dV pm code : Value) : FuncData := match PySem.Challenge.pw_qw0067_01.main.body.drop i with
  | .FunctionDef n a b _ _ _ sc _ _ _ :: _ => fnOf n n a b sc dV .none .none pm none code .none
  | _ => default
noncomputable abbrev lawM : Value := .str "law_qw0067_01" 1969
noncomputable abbrev pathM : Value := .str "cpy313.posixpath" 1922
theorem fn_dressed (w : World) : FnK w 215 (fdOf 45 .none lawM (.ref 214)) := ⟨⟨.type "function", none, #[], by kernel_rfl⟩, by kernel_rfl⟩
section
variable {c : Cx} {B : Heap} {m : Lo} {own : Ow}
theorem law_dressed {x : Str} {t : Tok} (room : c.A.depth < recursionLimit) (hx : x.length ≤ 100000) :
    GV c B m own (call (.ref 215) [.str x t]) fun _ v => ∃ t, v = .str (Txt.replace (Str.ofString "/" ++ x) (Str.ofString "/") (Str.ofString "//")) t := by
  refine GV.fn (binds := [(Str.ofString "path", .str x t)]) (fn_dressed c.w) rfl room (fun s k => BindsTo.of_eq rfl) (by decide +kernel) ?_ rfl rfl rfl fun s => ?_
  · intro y hy; cases hy with
    | head => rfl
    | tail _ h => cases h
  · refine XW.ret ?_
    refine (SV.replace (SV.add SV.lit (VV.str (VV.loc rfl rfl rfl)) ?_) (by decide) ?_ (by decide) (mc_of (fun _ => rfl) rfl rfl)).mono fun B1 v b r => r
    · show 1 + x.length ≤ sizeLine
      unfold sizeLine; omega
    · show (Str.ofString "/" ++ x).length ≤ 1048576
      rw [PySem.Str.length_append]
      show 1 + x.length ≤ 1048576
      omega
end
end Mine

end
section
open PySem PySem.W PyProof.Rows
set_option Elab.async false
set_option autoImplicit false
set_option linter.unusedVariables false
set_option maxRecDepth 100000
namespace Mine
/-! the top's names -/
structure Bl (w : World) (x : Str) (v : Value) : Prop where
  no : nsIn (KK w) mainGlobals x = some none
  yes : bootBuiltins x = some v
theorem bl_len (w : World) : Bl w "len" (.builtin "len") := ⟨by kernel_rfl, by boot_by_name⟩
theorem bl_min (w : World) : Bl w "min" (.builtin "min") := ⟨by kernel_rfl, by boot_by_name⟩
theorem bl_max (w : World) : Bl w "max" (.builtin "max") := ⟨by kernel_rfl, by boot_by_name⟩
theorem bl_abs (w : World) : Bl w "abs" (.builtin "abs") := ⟨by kernel_rfl, by boot_by_name⟩
theorem bl_ord (w : World) : Bl w "ord" (.builtin "ord") := ⟨by kernel_rfl, by boot_by_name⟩
theorem bl_chr (w : World) : Bl w "chr" (.builtin "chr") := ⟨by kernel_rfl, by boot_by_name⟩
theorem bl_sum (w : World) : Bl w "sum" (.builtin "sum") := ⟨by kernel_rfl, by boot_by_name⟩
theorem bl_sorted (w : World) : Bl w "sorted" (.builtin "sorted") := ⟨by kernel_rfl, by boot_by_name⟩
theorem bl_isinstance (w : World) : Bl w "isinstance" (.builtin "isinstance") := ⟨by kernel_rfl, by boot_by_name⟩
theorem bl_issubclass (w : World) : Bl w "issubclass" (.builtin "issubclass") := ⟨by kernel_rfl, by boot_by_name⟩
theorem bl_iter (w : World) : Bl w "iter" (.builtin "iter") := ⟨by kernel_rfl, by boot_by_name⟩
theorem bl_type (w : World) : Bl w "type" (.type "type") := ⟨by kernel_rfl, by boot_by_name⟩
theorem bl_str (w : World) : Bl w "str" (.type "str") := ⟨by kernel_rfl, by boot_by_name⟩
theorem bl_bytes (w : World) : Bl w "bytes" (.type "bytes") := ⟨by kernel_rfl, by boot_by_name⟩
theorem bl_int (w : World) : Bl w "int" (.type "int") := ⟨by kernel_rfl, by boot_by_name⟩
theorem bl_range (w : World) : Bl w "range" (.type "range") := ⟨by kernel_rfl, by boot_by_name⟩
theorem bl_zip (w : World) : Bl w "zip" (.type "zip") := ⟨by kernel_rfl, by boot_by_name⟩
theorem bl_map (w : World) : Bl w "map" (.type "map") := ⟨by kernel_rfl, by boot_by_name⟩
theorem bl_tuple (w : World) : Bl w "tuple" (.type "tuple") := ⟨by kernel_rfl, by boot_by_name⟩
theorem bl_enumerate (w : World) : Bl w "enumerate" (.type "enumerate") := ⟨by kernel_rfl, by boot_by_name⟩
section
variable {c : Cx} {B : Heap} {m : Lo} {own : Ow}
theorem VV.bl {x : Str} {v : Value} {p : Pos} (h : Bl c.w x v) (hl : c.env.kindOf x = some .globalImplicit) (hk : c.env.scope.kind = .function) (hg : c.env.globals = mainGlobals) (hb : c.env.builtins = builtinsNs)
    (hx : x ≠ "__name__" := by decide) (hd : (x == ("__debug__" : Str)) = false := by decide) : VV c B m own (.Name x p) v := VV.blt h.no h.yes hl hk hg hb hx hd

theorem gv_len_list {a : Addr} {vs : List Value} (ha : Ls B a vs) (hz : vs.length < 2 ^ 62) : GV c B m own (call (.builtin "len") [.ref a]) fun _ v => ∃ t, v = .int vs.length t :=
  GV.still fun s Q E F q => by
    have hl := (ha.ext F.frz).list
    with_reducible exact len_list hl (by simp; omega) (q _ _ s.drawn ⟨s.toks + 1, by simp⟩)
theorem gv_min {x y : Int} {t u : Tok} (hh : c.A.handled = none) : GV c B m own (call (.builtin "min") [.int x t, .int y u]) fun _ v => ∃ t, v = .int (min x y) t :=
  GV.growN fun s Q E h₀ news F fr nw q => by
    with_reducible refine min_two_N hh fr nw fun h' k fr' nw' => ?_
    refine q _ h' k s.drawn [] fr' nw' fun B' b x hn => ⟨_, congrArg (Value.int · _) ?_⟩
    rw [Int.min_def]
    split <;> split <;> omega
theorem part_isPart (p : Option (Int × Tok)) : IsPart (partValue p) (p.map (·.1)) := by
  cases p with
  | none => exact .none
  | some q => exact .int q.1 q.2
/-- a slice of a list that stays -/
theorem EV.sliceL {value : Expr} {lo hi : Option Expr} {p pos : Pos} {a : Addr} {vs ws : List Value} {i j : Option Int} (hv : VV c B m own value (.ref a)) (ha : Ls B a vs) (hl : PV c B m own lo i) (hh : PV c B m own hi j) (hz : vs.length ≤ sizeLine)
    (hw : slicePick vs.toArray i j none = ws.toArray) (hs : ∀ o a, subscripted (.Slice lo hi none p) false o a = operate [a, o] (getItem o a)) :
    EV c B m own (.Subscript value (.Slice lo hi none p) pos) fun B1 v => ∃ r, v = .ref r ∧ B.get? r = none ∧ Ls B1 r ws :=
  EV.sub hv fun B1 o b1 eo => (EV.slice (B := B1) ⟨fun B' b => hl.run B' (b1.trans b)⟩ ⟨fun B' b => hh.run B' (b1.trans b)⟩).mono fun B2 v b2 ⟨sl, l, u, ev, hS, hl', hu'⟩ => by
    subst eo ev hl' hu'
    refine GV.grow fun s Q E F q => ?_
    have hL := ((ha.ext (b1.trans b2).ext).ext F.frz).list
    have hS' : s.heap.IsSliceOf sl (partValue l) (partValue u) .none := isSlice_ext hS F.frz
    with_reducible refine tail_any hL.typeIs slot_list_getitem.lookup (wpAny_getItem_list_slice hL hS' (part_isPart l) (part_isPart u) .none (by simp) ?_ (by simpa using hz)) (hs _ _)
    rw [hw]
    refine q _ _ ⟨fun b o e => Heap.get?_push_of_some _ e, by simp, rfl, rfl⟩ fun B' b x hn => ⟨_, rfl, ?_, _, hn _ _ (Nat.le_refl _) (Heap.get?_push_size _ rfl), 0, rfl⟩
    cases e : B.get? s.heap.objs.size with
    | none => rfl
    | some o => exact absurd (Heap.lt_size (F.frz _ _ ((b1.trans b2).ext _ _ e))) (Nat.lt_irrefl _)
theorem SL.len {h : Heap} {a : Addr} {xs : List Str} (x : SL h a xs) : ∃ vs, Ls h a vs ∧ vs.length = xs.length := let ⟨l, hl, e⟩ := x; ⟨_, hl, by rw [← e]; simp [strValues]⟩
/-- slices of lists of texts -/
theorem EV.sliceSL {value : Expr} {lo hi : Option Expr} {p pos : Pos} {a : Addr} {xs ys : List Str} {i j : Option Int} (hv : VV c B m own value (.ref a)) (ha : SL B a xs) (hl : PV c B m own lo i) (hh : PV c B m own hi j) (hz : xs.length ≤ sizeLine)
    (hw : ∀ l : List (Str × Tok), l.map (·.1) = xs → ∃ l', slicePick (strValues l).toArray i j none = (strValues l').toArray ∧ l'.map (·.1) = ys) (hs : ∀ o a, subscripted (.Slice lo hi none p) false o a = operate [a, o] (getItem o a)) :
    EV c B m own (.Subscript value (.Slice lo hi none p) pos) fun B1 v => ∃ r, v = .ref r ∧ B.get? r = none ∧ SL B1 r ys := by
  obtain ⟨l, hL, e⟩ := ha
  obtain ⟨l', e1, e2⟩ := hw l e
  exact (EV.sliceL hv hL hl hh (by rw [← e] at hz; simpa [strValues] using hz) e1 hs).mono fun B1 v b ⟨r, ev, hr, hl⟩ => ⟨r, ev, hr, l', hl, e2⟩
theorem pick_upto {l : List (Str × Tok)} {n : Nat} : slicePick (strValues l).toArray none (some (n : Int)) none = (strValues (l.take n)).toArray := by
  rw [slicePick_upto']; simp [strValues, List.map_take]
theorem pick_from {l : List (Str × Tok)} {n : Nat} : slicePick (strValues l).toArray (some (n : Int)) none none = (strValues (l.drop n)).toArray := by
  rw [slicePick_from']; simp [strValues, List.map_drop]
theorem IV.lenL {e : Expr} {p pos : Pos} {a : Addr} {vs : List Value} (hl : VV c B m own (.Name "len" p) (.builtin "len")) (he : VV c B m own e (.ref a)) (ha : Ls B a vs) (hz : vs.length < 2 ^ 62) (hs : ∀ env, starEach [e] env = (false, eval e env) :: starEach [] env) :
    IV c B m own (.Call (.Name "len" p) [e] [] pos) vs.length :=
  EV.callB hl (AV.cons he (fun B1 v b ev => AV.nil fun B2 b2 => by subst ev; exact gv_len_list (ha.ext (b.trans b2).ext) hz) hs) hs fun _ => rfl
theorem IV.lenSL {e : Expr} {p pos : Pos} {a : Addr} {xs : List Str} (hl : VV c B m own (.Name "len" p) (.builtin "len")) (he : VV c B m own e (.ref a)) (ha : SL B a xs) (hz : xs.length < 2 ^ 62) (hs : ∀ env, starEach [e] env = (false, eval e env) :: starEach [] env) :
    IV c B m own (.Call (.Name "len" p) [e] [] pos) xs.length := by
  obtain ⟨vs, hL, e'⟩ := ha.len
  rw [← e']
  exact IV.lenL hl he hL (by omega) hs
theorem IV.min2 {e f : Expr} {p pos : Pos} {x y : Int} (hh : c.A.handled = none) (hl : VV c B m own (.Name "min" p) (.builtin "min")) (he : IV c B m own e x) (hf : IV c B m own f y) (hs : ∀ env, starEach [e, f] env = (false, eval e env) :: starEach [f] env) (hs2 : ∀ env, starEach [f] env = (false, eval f env) :: starEach [] env) :
    IV c B m own (.Call (.Name "min" p) [e, f] [] pos) (min x y) :=
  EV.callB hl (AV.cons he (fun B1 v b ⟨t, ev⟩ => AV.cons (hf.bs b) (fun B2 u b2 ⟨t2, eu⟩ => AV.nil fun B3 b3 => by subst ev eu; exact gv_min hh) hs2) hs) hs fun env => by rw [hs2]; rfl
/-- an item of a list of texts -/
theorem SV.item {value e : Expr} {pos : Pos} {a : Addr} {xs : List Str} {k : Int} {x : Str} (hv : VV c B m own value (.ref a)) (ha : SL B a xs) (hi : IV c B m own e k) (h0 : 0 ≤ k) (hk : k < 2 ^ 62) (hx : xs[k.toNat]? = some x)
    (hs : ∀ o a, subscripted e false o a = operate [o, a] (getItem o a)) : SV c B m own (.Subscript value e pos) x :=
  EV.sub hv fun B1 o b1 eo => (hi.bs b1).mono fun B2 v b2 ⟨u, ev⟩ => by
    subst eo ev
    obtain ⟨l, hL, rfl⟩ := ha
    rw [List.getElem?_map] at hx
    obtain ⟨p, hp, e⟩ := Option.map_eq_some_iff.mp hx
    exact (gv_tail_list (hL.ext (b1.trans b2).ext) h0 (by omega) (v := .str p.1 p.2) (by simp [strValues, hp]) (hs _ _)).mono fun _ _ _ r => ⟨p.2, by rw [r, e]⟩
end
end Mine

end
section
open PySem PySem.W PyProof.Rows
set_option Elab.async false
set_option autoImplicit false
set_option linter.unusedVariables false
set_option maxRecDepth 100000
namespace Mine
noncomputable abbrev kv (s : String) (v : Value) : Str × Value := (Str.ofString s, v)
noncomputable def alikeL : List Str → List Str → List Str
  | x :: xs, y :: ys => if x = y then x :: alikeL xs ys else []
  | _, _ => []
theorem alikeL_at : ∀ (xs ys : List Str) (k : Nat), xs.take k = ys.take k → k ≤ xs.length → k ≤ ys.length → (∀ x y, xs[k]? = some x → ys[k]? = some y → x ≠ y) → alikeL xs ys = xs.take k
  | [], ys, k, _, h1, _, _ => by cases ys <;> simp_all [alikeL]
  | x :: xs, [], k, _, _, h2, _ => by simp at h2; subst h2; simp [alikeL]
  | x :: xs, y :: ys, 0, _, _, _, h => by
    have := h x y rfl rfl
    simp [alikeL, this]
  | x :: xs, y :: ys, k + 1, e, h1, h2, h => by
    simp only [List.take_succ_cons, List.cons.injEq] at e
    obtain ⟨rfl, e⟩ := e
    simp only [alikeL, if_true, List.take_succ_cons]
    rw [alikeL_at xs ys k e (by simpa using h1) (by simpa using h2) (fun x y h3 h4 => h x y h3 h4)]
theorem fn_alike (w : World) : FnK w 243 (fdOf 49 .none lawM (.ref 242)) := ⟨⟨.type "function", none, #[], by kernel_rfl⟩, by kernel_rfl⟩
section
variable {c : Cx} {B : Heap} {m : Lo} {own : Ow}
theorem law_alike {a b : Addr} {xs ys : List Str} (room : c.A.depth < recursionLimit) (hh : c.A.handled = none) (ha : SL B a xs) (hb : SL B b ys) (hx : xs.length ≤ 1000) (hy : ys.length ≤ 1000) :
    GV c B m own (call (.ref 243) [.ref a, .ref b]) fun B1 v => ∃ r, v = .ref r ∧ B.get? r = none ∧ SL B1 r (alikeL xs ys) := by
  refine GV.fn (binds := [kv "one" (.ref a), kv "other" (.ref b)]) (fn_alike c.w) rfl room (fun s k => BindsTo.of_eq rfl) (by decide +kernel) (locs (by rfl)) rfl rfl rfl fun s => ?_
  refine XW.assign (IV.lit.mono fun B1 v b1 ⟨t, ev⟩ => ?_) rfl rfl rfl
  subst ev
  refine XW.while (fun n B2 m2 own2 => ∃ (k : Nat) (t : Tok), m2 = [kv "other" (.ref b), kv "one" (.ref a), kv "alike" (.int k t)] ∧ own2 = [] ∧ n + k = xs.length ∧ k ≤ ys.length ∧ xs.take k = ys.take k) xs.length ⟨0, t, rfl, rfl, by omega, by omega, rfl⟩ ?_
  rintro n B2 m2 own2 b2 ⟨k, t, rfl, rfl, hn, hk, e⟩
  have ha' := ha.ext (b1.trans b2).ext
  have hb' := hb.ext (b1.trans b2).ext
  refine ⟨_, TV.and2 (TV.lt (VV.int (VV.loc rfl rfl rfl)) (IV.min2 hh (VV.bl (bl_min _) rfl rfl rfl rfl) (IV.lenSL (VV.bl (bl_len _) rfl rfl rfl rfl) (VV.loc rfl rfl rfl) ha' (by omega) fun _ => rfl)
    (IV.lenSL (VV.bl (bl_len _) rfl rfl rfl rfl) (VV.loc rfl rfl rfl) hb' (by omega) fun _ => rfl) (fun _ => rfl) fun _ => rfl)) (y := xs[k]? == ys[k]?) (fun hlt => ?_), fun hx => ?_, fun hx => ?_⟩
  · have hlt := of_decide_eq_true hlt
    obtain ⟨x, hx'⟩ : ∃ x, xs[k]? = some x := ⟨_, List.getElem?_eq_getElem (by omega)⟩
    obtain ⟨y, hy'⟩ : ∃ y, ys[k]? = some y := ⟨_, List.getElem?_eq_getElem (by omega)⟩
    rw [hx', hy']
    exact TV.eqS (SV.item (VV.loc rfl rfl rfl) ha' (VV.int (VV.loc rfl rfl rfl)) (by omega) (by omega) (by simpa using hx') fun _ _ => rfl) (SV.item (VV.loc rfl rfl rfl) hb' (VV.int (VV.loc rfl rfl rfl)) (by omega) (by omega) (by simpa using hy') fun _ _ => rfl)
  · intro B3 b3
    refine XW.aug rfl IV.lit (fun B4 v b4 ⟨t4, ev⟩ => ?_) rfl rfl
    subst ev
    refine gv_iadd_int.mono fun B5 v b5 ⟨t5, ev⟩ => ?_
    subst ev
    refine XW.nil ⟨n - 1, ?_, k + 1, t5, rfl, rfl, ?_, ?_, ?_⟩
    all_goals (simp only [Bool.and_eq_true, decide_eq_true_eq, beq_iff_eq] at hx)
    · omega
    · omega
    · omega
    · rw [List.take_add_one, List.take_add_one, e, hx.2]
  · intro B3 b3
    refine XW.ret ((EV.sliceSL (VV.loc rfl rfl rfl) (ha'.ext b3.ext) PV.none (PV.some (VV.int (VV.loc rfl rfl rfl))) (by unfold sizeLine; omega) (ys := xs.take k) (fun l el => ⟨_, pick_upto, by rw [List.map_take, el]⟩) fun _ _ => rfl).mono fun B4 v b4 r => ?_)
    obtain ⟨r, ev, hr, hl⟩ := r
    refine ⟨r, ev, bs_none ((b1.trans b2).trans b3) hr, ?_⟩
    rw [alikeL_at xs ys k e (by omega) hk fun x y h1 h2 hxy => ?_]
    · exact hl
    · simp only [Bool.and_eq_false_iff, decide_eq_false_iff_not, beq_eq_false_iff_ne] at hx
      have h3 := (List.getElem?_eq_some_iff.mp h1).1
      have h4 := (List.getElem?_eq_some_iff.mp h2).1
      rcases hx with hx | hx
      · omega
      · exact hx (by rw [h1, h2, hxy])
end
end Mine

end
section
open PySem PySem.W PyProof.Rows
set_option Elab.async false
set_option autoImplicit false
set_option linter.unusedVariables false
set_option maxRecDepth 100000
namespace Mine
section
variable {prog : Program} {w : World} {A : Around} {E : Value → Shared → Prop} {s : Shared}
theorem nest1 {dep : Int} {tk : Tok} {Q : Fin → Shared → Prop} (hq : Q (.done (.ret (.bool true))) s) : wpAny (model prog w) A (Builtin.«issubclass.nested» ⟨[.type "str", .type "str", .int dep tk], []⟩) Q E s := by
  have hm := PySem.F.isi_meta_str
  have hself := PySem.F.isi_self_str
  repeat (any_goals (first | assumption | (rw [hself]) | wp_step))
theorem kind_nested : builtinKind "issubclass.nested" = none := by decide +kernel
theorem plain_nested : plainId "issubclass.nested" = true := by decide +kernel
theorem args_nested (a b c : Value) : argsOk "issubclass.nested" ⟨[a, b, c], []⟩ := by unfold argsOk; kernel_rfl
theorem nest2 {tp : Addr} {cs items : List Value} {n : Nat} {tk : Tok} {Q : Fin → Shared → Prop} (hi : items = .type "str" :: cs) (htp : s.heap.get? tp = some { cls := .type "tuple", data := .seq items.toArray n }) (hq : Q (.done (.ret (.bool true))) s) :
    wpAny (model prog w) A (Builtin.«issubclass.nested» ⟨[.type "str", .ref tp, .int 0 tk], []⟩) Q E s := by
  obtain ⟨h, g, d, t, os⟩ := s
  have hT2 : (⟨h, g, d, t, os⟩ : Shared).TypeIs (.ref tp) "tuple" := ⟨_, htp, rfl⟩
  have f1 := PySem.F.isi_sub_tuple
  repeat (any_goals (first | assumption | wp_step))
  refine wpAny_arrayLoop ?_
  simp only [Option.getD_some, List.toList_toArray]
  rw [hi, List.forIn_cons]
  refine wpAny_bind (wpAny_bind (call_function_meets kind_nested plain_nested PySem.F.entry_issubclass_nested (args_nested _ _ _) (S := fun _ R s => R (.ok (.ret (.bool true))) s) (fun prog w A R s h => nest1 h) ?_))
  show wpAny _ _ (truthy (.bool true) >>= _) _ _ _
  refine wpAny_bind (m := truthy (.bool true)) (wpAny_pure ?_)
  exact wpAny_bind (wpAny_pure (wpAny_pure (wpAny_pure (wpAny_pure hq))))
theorem issub_str {tp : Addr} {cs : List Value} {n : Nat} {Q : Value → Shared → Prop} (htp : s.heap.get? tp = some { cls := .type "tuple", data := .seq (.type "str" :: cs).toArray n }) (hq : Q (.bool true) s) :
    wpAny (model prog w) A (call (.builtin "issubclass") [.type "str", .ref tp]) Q E s :=
  call_issubclass (S := fun _ R s => s.heap.get? tp = some { cls := .type "tuple", data := .seq (.type "str" :: cs).toArray n } ∧ R (.ok (.ret (.bool true))) s) (fun prog w A R s h => issubclass_outer (nest2 rfl h.1 h.2)) ⟨htp, hq⟩
end
end Mine

end
section
open PySem PySem.W PyProof.Rows
set_option Elab.async false
set_option autoImplicit false
set_option linter.unusedVariables false
set_option maxRecDepth 100000
namespace Mine
noncomputable abbrev Tu (h : Heap) (a : Addr) (vs : List Value) : Prop := h.get? a = some { cls := .type "tuple", data := .seq vs.toArray }
section
variable {c : Cx} {B : Heap} {m : Lo} {own : Ow} {K : Flow → Heap → Lo → Ow → Prop} {rest : List Stmt}
theorem EV.callT {x : Str} {p pos : Pos} {e : Expr} {rest : List Expr} {T : String} {R : Heap → Value → Prop} (hx : VV c B m own (.Name x p) (.type T))
    (h : AV c B m own pos (e :: rest) fun B' vs => GV c B' m own (call (.type T) vs) R) (hs : ∀ env, starEach (e :: rest) env = (false, eval e env) :: starEach rest env) (hp : ∀ env, (backTo pos (starEach rest env)).any (·.1) = false) : EV c B m own (.Call (.Name x p) (e :: rest) [] pos) R :=
  ⟨fun B' b => ⟨fun s Q E F q => by
    with_reducible refine Call_ ((hx.run B' b).run s _ E F fun v s1 B1 b1 F1 r1 => ?_) rfl
    subst r1
    with_reducible refine PyProof.Rows.callWith_type1 ((h.run B1 (b.trans b1)).run s1 _ E F1 fun vs s2 B2 b2 F2 r2 => r2.run s2 Q E F2 fun v s3 B3 b3 F3 r3 => q v s3 B3 (b1.trans (b2.trans b3)) F3 r3) (hs _) (hp _)⟩⟩
theorem EV.tuple {elts : List Expr} {k : Nat} {pos : Pos} {R : Heap → List Value → Prop} (h : AV c B m own pos elts R) (hz : ∀ B1 vs, R B1 vs → vs.length ≤ sizeLine) (hR : ∀ B1 B2 vs, Ext B1 B2 → R B1 vs → R B2 vs) :
    EV c B m own (.Tuple elts k pos) fun B1 v => ∃ a vs, v = .ref a ∧ B.get? a = none ∧ Tu B1 a vs ∧ R B1 vs :=
  ⟨fun B' b => ⟨fun s Q E F q => by
    with_reducible refine Tuple_ ((h.run B' b).run s _ E F fun vs s1 B1 b1 F1 r1 => wpAny_newObj_type ?_ (sizeOk_list (hz _ _ r1)))
    have g : Grow s1 { s1 with heap := s1.heap.push { cls := .type "tuple", data := .seq vs.toArray } } := ⟨fun b o e => Heap.get?_push_of_some _ e, by simp, rfl, rfl⟩
    obtain ⟨b2, F2⟩ := F1.grow g F1.tk
    have b2' := b2.low F1.size
    exact q _ _ _ (b1.trans b2') F2 ⟨_, vs, rfl, bs_none (b.trans b1) F1.fresh, grown_new (Heap.get?_push_size _ rfl) (Nat.le_refl _), hR _ _ _ b2'.ext r1⟩⟩⟩
theorem Tu.ext {h h' : Heap} {a : Addr} {vs : List Value} (x : Tu h a vs) (e : Ext h h') : Tu h' a vs := e _ _ x
theorem Tu.tup {h : Heap} {a : Addr} {vs : List Value} (x : Tu h a vs) : h.IsTuple a vs.toArray := ⟨_, x, rfl, 0, rfl⟩
/-- growth but for a new address -/
theorem Fm.extNew {s : Shared} {h' : Heap} {k : Nat} {d : Drawn} (F : Fm c B m own s) (hx : Heap.ExtBut s.heap.objs.size s.heap h') (ht : s.toks ≤ k) : Fm c B m own { s with heap := h', toks := k, drawn := d } := by
  have hk : ∀ b o, s.heap.get? b = some o → h'.get? b = some o := fun b o e => hx b o (Nat.ne_of_lt (Heap.lt_size e)) e
  have hns := F.ns.keeps hk
  exact ⟨F.gg, F.gx, F.gn, fun b o h e => hk _ _ (F.keep b o h e), Nat.le_trans F.lL (Nat.le_of_lt hns.lt), fun b o e => hk _ _ (F.frz _ _ e), hns, fun p hp => let ⟨o, ho, q⟩ := F.ow p hp; ⟨o, hk _ _ ho, q⟩, F.bL, F.lL, F.bown, F.nd, F.gens, F.os, Nat.le_trans F.tk ht⟩
/-- two names out of a tuple -/
theorem XW.assign2 {x y : Str} {p1 p2 tp pos : Pos} {k : Nat} {e : Expr} (hh : c.A.handled = none) (h : EV c B m own e fun B1 v => ∃ a v1 v2, v = .ref a ∧ Tu B1 a [v1, v2] ∧ XW c B1 (put (put m x v1) y v2) own (execs rest c.env) K)
    (hx : c.env.kindOf x = some .local) (hy : c.env.kindOf y = some .local) (hk : c.env.scope.kind = .function) (hs : swapsWithSole [.Tuple [.Name x p1, .Name y p2] k tp] e pos.line c.env = pure false)
    (hw : swappedStores [.Tuple [.Name x p1, .Name y p2] k tp] e c.env = pure none) : XW c B m own (execs (.Assign [.Tuple [.Name x p1, .Name y p2] k tp] e pos :: rest) c.env) K :=
  XW.cons ⟨fun s Q E F q => by
    with_reducible refine Assign_Tuple ((h.run B (Bs.refl _ _)).run s _ E F fun v s1 B1 b1 F1 r1 => ?_) hs hw
    obtain ⟨a, v1, v2, rfl, ht, r⟩ := r1
    with_reducible refine wpAny_assign_Tuple hh (ht.ext F1.frz).tup rfl rfl fun h' hx' => ?_
    have F2 : Fm c B1 m own { s1 with heap := h' } := F1.extNew (k := s1.toks) (d := s1.drawn) hx' (Nat.le_refl _)
    show wpAny _ _ (assignInOrder [PySem.assign (.Name x p1) c.env, PySem.assign (.Name y p2) c.env] [v1, v2]) _ _ _
    with_reducible refine wpAny_assignInOrder_more (wpAny_assign_Name ?_)
    refine GV.sto (K := fun _ _ => True) hx hk _ _ E F2 fun s3 F3 => ?_
    with_reducible refine wpAny_assignInOrder_more (wpAny_assign_Name ?_)
    refine GV.sto (K := fun _ _ => True) hy hk _ _ E F3 fun s4 F4 => ?_
    with_reducible refine wpAny_assignInOrder_none ?_
    exact q .next s4 B1 _ _ b1 F4 r⟩
theorem XW.assignSw {x y : Str} {p1 p2 tp pos : Pos} {k : Nat} {e : Expr} (hh : c.A.handled = none) (h : EV c B m own e fun B1 v => ∃ a v1 v2, v = .ref a ∧ Tu B1 a [v1, v2] ∧ XW c B1 (put (put m y v2) x v1) own (execs rest c.env) K)
    (hx : c.env.kindOf x = some .local) (hy : c.env.kindOf y = some .local) (hk : c.env.scope.kind = .function) (hs : swapsWithSole [.Tuple [.Name x p1, .Name y p2] k tp] e pos.line c.env = pure false)
    (hw : swappedStores [.Tuple [.Name x p1, .Name y p2] k tp] e c.env = pure (some [x, y])) : XW c B m own (execs (.Assign [.Tuple [.Name x p1, .Name y p2] k tp] e pos :: rest) c.env) K :=
  XW.cons ⟨fun s Q E F q => by
    with_reducible refine Assign_Tuple_swapped ((h.run B (Bs.refl _ _)).run s _ E F fun v s1 B1 b1 F1 r1 => ?_) hs hw
    obtain ⟨a, v1, v2, rfl, ht, r⟩ := r1
    show wpAny _ _ (unpackItems (.ref a) [v1, v2].toArray.size Option.none) _ _ _
    with_reducible refine wpAny_unpackItems_tuple hh (ht.ext F1.frz).tup fun h' hx' => ?_
    have F2 : Fm c B1 m own { s1 with heap := h' } := F1.extNew (k := s1.toks) (d := s1.drawn) hx' (Nat.le_refl _)
    show wpAny _ _ (assignInOrder [fun v => bindName c.env y v, fun v => bindName c.env x v] [v2, v1]) _ _ _
    with_reducible refine wpAny_assignInOrder_more (wpAny_bindName ?_)
    refine GV.sto (K := fun _ _ => True) hy hk _ _ E F2 fun s3 F3 => ?_
    with_reducible refine wpAny_assignInOrder_more (wpAny_bindName ?_)
    refine GV.sto (K := fun _ _ => True) hx hk _ _ E F3 fun s4 F4 => ?_
    with_reducible refine wpAny_assignInOrder_none ?_
    exact q .next s4 B1 _ _ b1 F4 r⟩
theorem gv_type_str {x : Str} {t : Tok} : GV c B m own (call (.type "type") [.str x t]) fun _ v => v = .type "str" :=
  GV.still fun s Q E F q => by with_reducible exact call_type_of (typeIs_str _ _ _) (by decide +kernel) (q _ s.toks s.drawn rfl)
theorem gv_isi_bytes {x : Str} {t : Tok} : GV c B m own (call (.builtin "isinstance") [.str x t, .type "bytes"]) fun _ v => v = .bool false :=
  GV.still fun s Q E F q => by with_reducible exact IsiPair.str_bytes (q _ _ s.drawn rfl)
theorem gv_issub {a : Addr} {cs : List Value} (ha : Tu B a (.type "str" :: cs)) : GV c B m own (call (.builtin "issubclass") [.type "str", .ref a]) fun _ v => v = .bool true :=
  GV.still fun s Q E F q => by with_reducible exact issub_str (F.frz _ _ ha) (q _ s.toks s.drawn rfl)
theorem gv_truthy_bool {x : Bool} : GV c B m own (truthy (.bool x)) fun _ y => y = x :=
  GV.still fun s Q E F q => by with_reducible exact wpAny_truthy_bool (q _ s.toks s.drawn rfl)
theorem TV.ofV {e : Expr} {x : Bool} (h : VV c B m own e (.bool x)) (he : ∀ whole, isTrue e c.env whole = (do let v ← whole; standAt e.pos; holding [v] (truthy v))) : TV c B m own e x :=
  TV.val h (fun B1 v b ev => by subst ev; exact gv_truthy_bool) he
end
theorem fn_fspath (w : World) : FnK w 154 (fdOf 33 .none (.str "os" 1897) (.ref 153)) := ⟨⟨.type "function", none, #[], by kernel_rfl⟩, by kernel_rfl⟩
theorem fn_getsep (w : World) : FnK w 168 (fdOf 37 .none pathM (.ref 167)) := ⟨⟨.type "function", none, #[], by kernel_rfl⟩, by kernel_rfl⟩
section
variable {c : Cx} {B : Heap} {m : Lo} {own : Ow}
theorem fs_path {x : Str} {t : Tok} (room : c.A.depth < recursionLimit) : GV c B m own (call (.ref 154) [.str x t]) fun _ v => v = .str x t := by
  refine GV.fn (binds := [kv "path" (.str x t)]) (fn_fspath c.w) rfl room (fun s k => BindsTo.of_eq rfl) (by decide +kernel) (locs (by rfl)) rfl rfl rfl fun s => ?_
  refine XW.assign ((EV.callT (VV.bl (bl_type _) rfl rfl rfl rfl) (AV.cons (VV.loc rfl rfl rfl) (fun B1 v b ev => AV.nil fun B2 b2 => by subst ev; exact gv_type_str) fun _ => rfl) (fun _ => rfl) fun _ => rfl).mono fun B1 v b1 ev => ?_) rfl rfl rfl
  subst ev
  refine XW.ite (TV.ofV (x := true) ?_ fun _ => rfl) (fun _ B2 b2 => ?_) fun h => nomatch h
  · refine EV.callB (VV.bl (bl_issubclass _) rfl rfl rfl rfl) (AV.cons (VV.loc rfl rfl rfl) (fun B2 v b ev => AV.cons (EV.tuple (R := fun _ vs => vs = [.type "str", .type "bytes"])
      (AV.cons (VV.bl (bl_str _) rfl rfl rfl rfl) (fun B3 v b ev => AV.cons (VV.bl (bl_bytes _) rfl rfl rfl rfl) (fun B4 u b' eu => AV.nil fun B5 b5 => by rw [ev, eu]) fun _ => rfl) fun _ => rfl) (by intro _ vs e; subst e; decide) fun _ _ _ _ e => e)
      (fun B3 u b' ⟨a, vs, eu, ha, ht, e⟩ => AV.nil fun B4 b4 => by subst ev eu e; exact gv_issub (ht.ext b4.ext)) fun _ => rfl) fun _ => rfl) (fun _ => rfl) fun _ => rfl
  · exact XW.ret ((VV.loc rfl rfl rfl).mono fun B3 v b3 ev => ev)
theorem get_sep {x : Str} {t : Tok} (room : c.A.depth < recursionLimit) : GV c B m own (call (.ref 168) [.str x t]) fun _ v => ∃ t, v = .str "/" t := by
  refine GV.fn (binds := [kv "path" (.str x t)]) (fn_getsep c.w) rfl room (fun s k => BindsTo.of_eq rfl) (by decide +kernel) (locs (by rfl)) rfl rfl rfl fun s => ?_
  refine XW.ite (TV.ofV (x := false) ?_ fun _ => rfl) (fun h => nomatch h) fun _ B2 b2 => ?_
  · exact EV.callB (VV.bl (bl_isinstance _) rfl rfl rfl rfl) (AV.cons (VV.loc rfl rfl rfl) (fun B2 v b ev => AV.cons (VV.bl (bl_bytes _) rfl rfl rfl rfl) (fun B3 u b' eu => AV.nil fun B4 b4 => by subst ev eu; exact gv_isi_bytes) fun _ => rfl) fun _ => rfl) (fun _ => rfl) fun _ => rfl
  · exact XW.ret (SV.lit.mono fun B3 v b3 ev => ev)
end
end Mine

end
section
open PySem PySem.W PyProof.Rows
set_option Elab.async false
set_option autoImplicit false
set_option linter.unusedVariables false
set_option maxRecDepth 100000
namespace Mine
section
variable {c : Cx} {B : Heap} {m : Lo} {own : Ow}
/-- a def with a starred parameter -/
theorem GV.fnV {f : Addr} {fd : FuncData} {body : List Stmt} {args vs : List Value} {binds : Value → List (Str × Value)} {R : Heap → Value → Prop} (hf : FnK c.w f fd) (hbody : fd.body = .stmts body) (room : c.A.depth < recursionLimit)
    (hb : bindArgs fd ⟨args, []⟩ = (newTuple vs >>= fun t => Pure.pure (binds t))) (hz : vs.length ≤ sizeLine) (hcell : ∀ x ∈ fd.scope.names, x.2 ≠ .cell) (hloc : ∀ t, ∀ x ∈ binds t, fd.scope.names.lookup x.1 = some .local)
    (hco : fd.scope.isCoroutine = false) (hgen : fd.scope.isGenerator = false) (hk : fd.scope.kind = .function)
    (h : ∀ s a B1, Bs c.n B B1 → Tu B1 a vs → XW (sub c fd f s) B1 (binds (.ref a)).reverse [] (execs body (sub c fd f s).env) fun fl B' _ _ => R B' (retv fl)) : GV c B m own (call (.ref f) args) R :=
  ⟨fun s Q E F q => by
    have kk := F.gl.k.keeps F.frz
    obtain ⟨o, ho, hd⟩ := hf.get kk
    with_reducible refine wpAny_call (codeAny_call_function room ho hd hco hgen hbody (codeRec_of kk hf.code) ?_)
    rw [hb]
    with_reducible refine wpAny_bind (wpAny_newObj_type ?_ (sizeOk_list hz))
    have g : Grow s { s with heap := s.heap.push { cls := .type "tuple", data := .seq vs.toArray } } := ⟨fun b o e => Heap.get?_push_of_some _ e, by simp, rfl, rfl⟩
    obtain ⟨b1, F1⟩ := F.grow g F.tk
    have b1' := b1.low F.size
    with_reducible refine wpAny_pure (wpAny_newFunctionEnv hcell (hloc _) (fun h₀ hns hsb => ⟨?_, codeAny_func ?_⟩) hk)
    · exact (F1.gl.lim.keeps F1.frz).fresh _ hsb
    have hk₀ : ∀ b o, (s.heap.push { cls := .type "tuple", data := .seq vs.toArray }).get? b = some o → h₀.get? b = some o := fun b o e => hsb.extBut b o (Nat.ne_of_lt (Heap.lt_size e)) (Heap.get?_push_of_some _ e)
    have F2 := F1.enter (fd := fd) (f := f) (k := s.toks + (binds (.ref s.heap.objs.size)).length) hns hk₀ (Nat.le_add_right _ _)
    show wpAny _ (c.A.deeper (callEnv fd (s.heap.push { cls := .type "tuple", data := .seq vs.toArray }).objs.size f)) (execs body (callEnv fd (s.heap.push { cls := .type "tuple", data := .seq vs.toArray }).objs.size f)) _ _ _
    with_reducible refine (h _ s.heap.objs.size _ b1' (grown_new (Heap.get?_push_size _ rfl) (Nat.le_refl _))).run _ _ _ F2 fun fl s' B' m' own' b F' r => ?_
    have := q (retv fl) s' B' (b1'.trans (b.low F1.size)) (F1.back F' rfl (fun _ h => h) b) r
    cases fl <;> exact this⟩
theorem gv_mul_str {x : Str} {n : Int} {t u : Tok} (hok : MulOk x n) : GV c B m own (binaryOp .Mult (.str x t) (.int n u)) fun _ v => ∃ t, v = .str (Txt.mul x n) t :=
  GV.still fun s Q E F q => by with_reducible exact SB.mul hok fun t' k => q _ k s.drawn ⟨t', rfl⟩
end
theorem two_le {a b : Value} : [a, b].length ≤ sizeLine := by show 2 ≤ sizeLine; decide
noncomputable def headOf (x : Str) : Str := if (Txt.slice x none (some (Txt.rfind x "/" + 1)) != Str.empty && Txt.slice x none (some (Txt.rfind x "/" + 1)) != Txt.mul "/" (Txt.slice x none (some (Txt.rfind x "/" + 1))).length) then Txt.rstripChars (Txt.slice x none (some (Txt.rfind x "/" + 1))) "/" else Txt.slice x none (some (Txt.rfind x "/" + 1))
noncomputable def tailOf (x : Str) : Str := Txt.slice x (some (Txt.rfind x "/" + 1)) none
theorem fn_split (w : World) : FnK w 182 (fdOf 39 .none pathM (.ref 181)) := ⟨⟨.type "function", none, #[], by kernel_rfl⟩, by kernel_rfl⟩
theorem fn_dirname (w : World) : FnK w 189 (fdOf 40 .none pathM (.ref 188)) := ⟨⟨.type "function", none, #[], by kernel_rfl⟩, by kernel_rfl⟩
theorem fn_join (w : World) : FnK w 175 (fdOf 38 .none pathM (.ref 174)) := ⟨⟨.type "function", none, #[], by kernel_rfl⟩, by kernel_rfl⟩
theorem g_fspath (w : World) : nsIn (KK w) mainGlobals "fspath" = some (some (.ref 154)) := by kernel_rfl
theorem g_getsep (w : World) : nsIn (KK w) mainGlobals "_get_sep" = some (some (.ref 168)) := by kernel_rfl
section
variable {c : Cx} {B : Heap} {m : Lo} {own : Ow}
theorem p_dirname {x : Str} {t : Tok} (room : c.A.depth + 1 < recursionLimit) (hx : x.length ≤ 100000) : GV c B m own (call (.ref 189) [.str x t]) fun _ v => ∃ t, v = .str (headOf x) t := by
  refine GV.fn (binds := [kv "p" (.str x t)]) (fn_dirname c.w) rfl (by omega) (fun s k => BindsTo.of_eq rfl) (by decide +kernel) (locs (by rfl)) rfl rfl rfl fun s => ?_
  have room' : (sub c (fdOf 40 .none pathM (.ref 188)) 189 s).A.depth < recursionLimit := room
  refine XW.assign ((EV.callF (VV.glob (g_fspath _) rfl rfl rfl) (fn_fspath _) (AV.cons (VV.loc rfl rfl rfl) (fun B1 v b ev => AV.nil fun B2 b2 => by subst ev; exact fs_path room') fun _ => rfl) fun _ => rfl).mono fun B1 v b1 ev => ?_) rfl rfl rfl
  subst ev
  refine XW.assign ((EV.callF (VV.glob (g_getsep _) rfl rfl rfl) (fn_getsep _) (AV.cons (VV.loc rfl rfl rfl) (fun B1 v b ev => AV.nil fun B2 b2 => by subst ev; exact get_sep room') fun _ => rfl) fun _ => rfl).mono fun B2 v b2 r => ?_) rfl rfl rfl
  obtain ⟨t2, rfl⟩ := r
  refine XW.assign ((IV.add (EV.strM1 (VV.str (VV.loc rfl rfl rfl)) PySem.F.slot_str_rfind PySem.F.type_str_rfind (VV.str (VV.loc rfl rfl rfl)) (fun B1 t u => gv_rfind) (mc_of (fun _ => rfl) rfl rfl) fun _ => rfl) IV.lit).mono fun B3 v b3 r => ?_) rfl rfl rfl
  obtain ⟨t3, rfl⟩ := r
  refine XW.assign ((SV.slice (VV.str (VV.loc rfl rfl rfl)) PV.none (PV.some (VV.int (VV.loc rfl rfl rfl))) (by unfold sizeLine; omega) fun _ _ => rfl).mono fun B4 v b4 r => ?_) rfl rfl rfl
  obtain ⟨t4, rfl⟩ := r
  have hle := Txt.slice_le x none (some (Txt.rfind x "/" + 1))
  refine XW.ite (TV.and2 (TV.truthS (VV.str (VV.loc rfl rfl rfl)) (by omega) fun _ => rfl) fun _ => TV.neS (VV.str (VV.loc rfl rfl rfl)) (EV.binop (VV.str (VV.loc rfl rfl rfl)) fun B5 a b5 ⟨t5, ea⟩ => (IV.lenS (VV.bl (bl_len _) rfl rfl rfl rfl) (VV.str (VV.loc rfl rfl rfl)) (by omega) fun _ => rfl).mono fun B6 v b6 ⟨t6, ev⟩ => by
      subst ea ev; exact gv_mul_str (mulOk_of 1 100000 (by decide) (by omega) (by omega) (by decide) (by decide)))) (fun hc B5 b5 => ?_) fun hc B5 b5 => ?_
  · refine XW.assign ((EV.strM1 (VV.str (VV.loc rfl rfl rfl)) PySem.F.slot_str_rstrip PySem.F.type_str_rstrip (VV.str (VV.loc rfl rfl rfl)) (fun B1 t u => gv_rstripChars (by unfold sizeLine; omega)) (mc_of (fun _ => rfl) rfl rfl) fun _ => rfl).mono fun B6 v b6 r => ?_) rfl rfl rfl
    obtain ⟨t6, rfl⟩ := r
    refine XW.nil (XW.ret ((VV.loc rfl rfl rfl).mono fun B7 v b7 ev => ⟨t6, ?_⟩))
    rw [ev]
    unfold headOf
    rw [if_pos hc]; rfl
  · refine XW.nil (XW.ret ((VV.loc rfl rfl rfl).mono fun B7 v b7 ev => ⟨t4, ?_⟩))
    rw [ev]
    unfold headOf
    rw [if_neg (by rw [hc]; decide)]; rfl
theorem p_split {x : Str} {t : Tok} (room : c.A.depth + 1 < recursionLimit) (hh : c.A.handled = none) (hx : x.length ≤ 100000) : GV c B m own (call (.ref 182) [.str x t]) fun B1 v => ∃ a t1 t2, v = .ref a ∧ Tu B1 a [.str (headOf x) t1, .str (tailOf x) t2] := by
  refine GV.fn (binds := [kv "p" (.str x t)]) (fn_split c.w) rfl (by omega) (fun s k => BindsTo.of_eq rfl) (by decide +kernel) (locs (by rfl)) rfl rfl rfl fun s => ?_
  have room' : (sub c (fdOf 39 .none pathM (.ref 181)) 182 s).A.depth < recursionLimit := room
  refine XW.assign ((EV.callF (VV.glob (g_fspath _) rfl rfl rfl) (fn_fspath _) (AV.cons (VV.loc rfl rfl rfl) (fun B1 v b ev => AV.nil fun B2 b2 => by subst ev; exact fs_path room') fun _ => rfl) fun _ => rfl).mono fun B1 v b1 ev => ?_) rfl rfl rfl
  subst ev
  refine XW.assign ((EV.callF (VV.glob (g_getsep _) rfl rfl rfl) (fn_getsep _) (AV.cons (VV.loc rfl rfl rfl) (fun B1 v b ev => AV.nil fun B2 b2 => by subst ev; exact get_sep room') fun _ => rfl) fun _ => rfl).mono fun B2 v b2 r => ?_) rfl rfl rfl
  obtain ⟨t2, rfl⟩ := r
  refine XW.assign ((IV.add (EV.strM1 (VV.str (VV.loc rfl rfl rfl)) PySem.F.slot_str_rfind PySem.F.type_str_rfind (VV.str (VV.loc rfl rfl rfl)) (fun B1 t u => gv_rfind) (mc_of (fun _ => rfl) rfl rfl) fun _ => rfl) IV.lit).mono fun B3 v b3 r => ?_) rfl rfl rfl
  obtain ⟨t3, rfl⟩ := r
  have hle := Txt.slice_le x none (some (Txt.rfind x "/" + 1))
  refine XW.assignSw hh ((EV.tuple (R := fun _ vs => ∃ t4 t5, vs = [.str (Txt.slice x none (some (Txt.rfind x "/" + 1))) t4, .str (tailOf x) t5]) (AV.cons (SV.slice (VV.str (VV.loc rfl rfl rfl)) PV.none (PV.some (VV.int (VV.loc rfl rfl rfl))) (by unfold sizeLine; omega) fun _ _ => rfl)
    (fun B4 v b4 ⟨t4, ev⟩ => AV.cons (SV.slice (VV.str (VV.loc rfl rfl rfl)) (PV.some (VV.int (VV.loc rfl rfl rfl))) PV.none (by unfold sizeLine; omega) fun _ _ => rfl) (fun B5 u b5 ⟨t5, eu⟩ => AV.nil fun B6 b6 => ⟨t4, t5, by rw [ev, eu]; rfl⟩) fun _ => rfl) fun _ => rfl)
    (by rintro _ vs ⟨_, _, rfl⟩; exact two_le) fun _ _ _ _ e => e).mono fun B4 v b4 r => ?_) rfl rfl rfl rfl rfl
  obtain ⟨a, vs, rfl, ha, ht, t4, t5, rfl⟩ := r
  refine ⟨a, _, _, rfl, ht, ?_⟩
  refine XW.ite (TV.and2 (TV.truthS (VV.str (VV.loc rfl rfl rfl)) (by omega) fun _ => rfl) fun _ => TV.neS (VV.str (VV.loc rfl rfl rfl)) (EV.binop (VV.str (VV.loc rfl rfl rfl)) fun B5 a b5 ⟨t5, ea⟩ => (IV.lenS (VV.bl (bl_len _) rfl rfl rfl rfl) (VV.str (VV.loc rfl rfl rfl)) (by omega) fun _ => rfl).mono fun B6 v b6 ⟨t6, ev⟩ => by
      subst ea ev; exact gv_mul_str (mulOk_of 1 100000 (by decide) (by omega) (by omega) (by decide) (by decide)))) (fun hc B5 b5 => ?_) fun hc B5 b5 => ?_
  · refine XW.assign ((EV.strM1 (VV.str (VV.loc rfl rfl rfl)) PySem.F.slot_str_rstrip PySem.F.type_str_rstrip (VV.str (VV.loc rfl rfl rfl)) (fun B1 t u => gv_rstripChars (by unfold sizeLine; omega)) (mc_of (fun _ => rfl) rfl rfl) fun _ => rfl).mono fun B6 v b6 r => ?_) rfl rfl rfl
    obtain ⟨t6, rfl⟩ := r
    refine XW.nil (XW.ret ((EV.tuple (R := fun _ vs => vs = [.str (headOf x) t6, .str (tailOf x) t5]) (AV.cons (VV.loc rfl rfl rfl) (fun B7 v b7 ev => AV.cons (VV.loc rfl rfl rfl) (fun B8 u b8 eu => AV.nil fun B9 b9 => ?_) fun _ => rfl) fun _ => rfl) (by rintro _ vs rfl; exact two_le) fun _ _ _ _ e => e).mono fun B7 v b7 r => ?_))
    · rw [ev, eu]
      unfold headOf
      rw [if_pos hc]
    · obtain ⟨a, vs, rfl, ha, ht, rfl⟩ := r
      exact ⟨a, t6, t5, rfl, ht⟩
  · refine XW.nil (XW.ret ((EV.tuple (R := fun _ vs => vs = [.str (headOf x) t4, .str (tailOf x) t5]) (AV.cons (VV.loc rfl rfl rfl) (fun B7 v b7 ev => AV.cons (VV.loc rfl rfl rfl) (fun B8 u b8 eu => AV.nil fun B9 b9 => ?_) fun _ => rfl) fun _ => rfl) (by rintro _ vs rfl; exact two_le) fun _ _ _ _ e => e).mono fun B7 v b7 r => ?_))
    · rw [ev, eu]
      unfold headOf
      rw [if_neg (by rw [hc]; decide)]
    · obtain ⟨a, vs, rfl, ha, ht, rfl⟩ := r
      exact ⟨a, t4, t5, rfl, ht⟩
end
end Mine

end
section
open PySem PySem.W PyProof.Rows
set_option Elab.async false
set_option autoImplicit false
set_option linter.unusedVariables false
set_option maxRecDepth 100000
namespace Mine
/-- what a for over the value v asks -/
noncomputable def FO (c : Cx) (target : Expr) (body rest : List Stmt) (K : Flow → Heap → Lo → Ow → Prop) (m : Lo) (own : Ow) (B1 : Heap) (v : Value) : Prop :=
  ∃ (len : Nat) (St : Nat → Obj → Prop) (V : Nat → Heap → Value → Prop) (U : Nat → Heap → Lo → Lo → Prop) (I : Nat → Heap → Lo → Ow → Prop),
    (GV c B1 m own (pyIter v) fun B2 w => ∃ it, w = .ref it ∧ B1.get? it = none ∧ (∃ o, B2.get? it = some o ∧ St 0 o) ∧ ∀ i, NX c B1 it St i (decide (i < len)) target (V i)) ∧
    (∀ B2, Bs c.n B1 B2 → I 0 B2 m own) ∧ (∀ i, i < len → TG c target (V i) (U i)) ∧
    (∀ i B0 B2 m0 m1 own1 p, i < len → Bs c.n B1 B0 → Bs c.n B0 B2 → I i B0 m0 own1 → U i B2 m0 m1 → XW c B2 m1 (p :: own1) (execs body c.env) (forK c rest K p (I (i + 1)))) ∧
    ∀ B2 m1 own1, Bs c.n B1 B2 → I len B2 m1 own1 → XW c B2 m1 own1 (execs rest c.env) K
section
variable {c : Cx} {B : Heap} {m : Lo} {own : Ow} {K : Flow → Heap → Lo → Ow → Prop} {rest : List Stmt}
theorem XW.forG {target iter : Expr} {body : List Stmt} {pos : Pos} (he : EV c B m own iter fun B1 v => FO c target body rest K m own B1 v) (hs : ∀ x, foldedSetIterable iter c.env x = pure x) : XW c B m own (execs (.For target iter body [] pos :: rest) c.env) K :=
  XW.cons ⟨fun s Q E F q => by
    with_reducible refine wpAny_For ((he.run B (Bs.refl _ _)).run s _ E F fun v s1 B1 b1 F1 r1 => ?_) hs
    obtain ⟨len, St, V, U, I, hi, hI0, ht, turn, fin⟩ := r1
    with_reducible refine hi.run s1 _ E F1 fun w s2 B2 b2 F2 r2 => ?_
    obtain ⟨it, rfl, hit, ⟨o, ho, hS⟩, hN⟩ := r2
    have F3 := F2.take b2 hit ho hS
    have b3 := less_bs b2 hit
    with_reducible refine codeAny_forLoop_any (fun n s => ∃ i Bi m1 own1, n + i = len ∧ Bs c.n B1 Bi ∧ Fm c Bi m1 ((it, St i) :: own1) s ∧ I i Bi m1 own1) (fun n s hI => ?_) len ⟨0, _, m, own, rfl, b3, F3, hI0 _ b3⟩
    obtain ⟨i, Bi, mi, owni, hni, bi', Fi, hIi⟩ := hI
    have bi := b1.trans bi'
    with_reducible refine (hN i).run Bi mi owni s _ _ bi' Fi (fun hm v s' hlet => ?_) (fun hm s' F' => ?_)
    · have hlt : i < len := of_decide_eq_true hm
      show wpAny _ _ _ _ _ _
      with_reducible refine hlet _ _ fun s'' B'' b'' hV F'' => ?_
      with_reducible refine (ht i hlt).run B'' mi _ v s'' _ _ hV F'' fun s3 B3 m3 b3 hU F3 => ?_
      with_reducible refine (turn i Bi B3 mi m3 owni _ hlt bi' (b''.trans b3) hIi hU).run s3 _ _ F3 fun f s4 B4 m4 own4 b4 F4 r4 => ?_
      obtain ⟨own5, rfl, r5⟩ := r4
      have b4' := b''.trans (b3.trans b4)
      have bb := bi.trans b4'
      cases f with
      | next => exact ⟨n - 1, by omega, i + 1, B4, m4, own5, by omega, bi'.trans b4', F4, r5⟩
      | cont => exact ⟨n - 1, by omega, i + 1, B4, m4, own5, by omega, bi'.trans b4', F4, r5⟩
      | brk => exact q .next s4 B4 m4 own5 bb F4.drop r5
      | ret v => exact q (.ret v) s4 B4 m4 own5 bb F4.drop r5
    · have hlt : ¬ i < len := of_decide_eq_false hm
      have : i = len := by omega
      subst this
      show wpAny _ _ _ _ _ _
      with_reducible refine wpAny_execs_nil ?_
      exact q .next s' Bi mi owni bi F' (fin Bi mi owni bi' hIi)⟩
theorem FO.list {x : Str} {p : Pos} {body : List Stmt} {l : Addr} {vs : List Value} (I : Nat → Heap → Lo → Ow → Prop) (hh : c.A.handled = none) (hl : Ls B l vs) (h0 : ∀ B2, Bs c.n B B2 → I 0 B2 m own)
    (turn : ∀ i v B0 B2 m0 own1 q, vs[i]? = some v → Bs c.n B B0 → Bs c.n B0 B2 → I i B0 m0 own1 → XW c B2 (put m0 x v) (q :: own1) (execs body c.env) (forK c rest K q (I (i + 1))))
    (fin : ∀ B2 m1 own1, Bs c.n B B2 → I vs.length B2 m1 own1 → XW c B2 m1 own1 (execs rest c.env) K) (hx : c.env.kindOf x = some .local) (hk : c.env.scope.kind = .function) : FO c (.Name x p) body rest K m own B (.ref l) :=
  ⟨vs.length, isLI l, fun i _ v => vs[i]? = some v, fun i B m m' => ∃ v, vs[i]? = some v ∧ m' = put m x v, I, (GV.iterL hl).mono fun B2 w b ⟨it, e, h1, h2⟩ => ⟨it, e, h1, h2, fun i => NX.list hh hl i⟩, h0, fun i _ => TG.name hx hk,
    fun i B0 B2 m0 m1 own1 q hi b0 b2 hI ⟨v, hv, e⟩ => by subst e; exact turn i v B0 B2 m0 own1 q hv b0 b2 hI, fin⟩
/-! tuples -/
noncomputable def isTI (l : Addr) (i : Nat) (o : Obj) : Prop := o.cls = .type "tuple_iterator" ∧ o.data = .fields #[.ref l, .int i 0]
theorem NX.tuple {B0 : Heap} {it l : Addr} {vs : List Value} {x : Str} {p : Pos} (hh : c.A.handled = none) (hG : Tu B0 l vs) (i : Nat) :
    NX c B0 it (isTI l) i (decide (i < vs.length)) (.Name x p) fun _ v => vs[i]? = some v :=
  ⟨fun B m own s Q E b F h1 h2 => by
    obtain ⟨o, ho, hc, hd⟩ := F.ow _ (.head _)
    have hl := ((hG.ext b.ext).ext F.frz).tup
    have hit : s.heap.IsTupleIter it l i := ⟨o, ho, hc, hd⟩
    by_cases hi : i < vs.length
    · have hx : vs.toArray[i]? = some vs[i] := by simp [hi]
      with_reducible refine wpAny_pyNext_tuple_item (it := it) (t := l) (i := i) hit hl hx fun h' hit hs => h1 (decide_eq_true hi) _ _ fun Q' E' q' => ?_
      rw [letOwned_name]
      obtain ⟨o', ho', hc', hd'⟩ := hit
      have F' : Fm c B m ((it, isTI l (i + 1)) :: own) { s with heap := h' } := F.step hs ho' ⟨hc', hd'⟩ rfl rfl (Nat.le_refl _)
      with_reducible exact wpAny_pure (q' _ B (Bs.refl _ _) (by simp [hi]) F')
    · have hx : vs.toArray[i]? = none := by simp; omega
      with_reducible refine wpAny_pyNext_tuple_end (it := it) (t := l) (i := i) hh hit hl hx fun h' hx => h2 (decide_eq_false hi) _ ?_
      exact F.lose (k := s.toks) (d := s.drawn) hx (Nat.le_refl _)⟩
theorem GV.iterT {l : Addr} {vs : List Value} (hl : Tu B l vs) : GV c B m own (pyIter (.ref l)) fun B2 w => ∃ it, w = .ref it ∧ B.get? it = none ∧ (∃ o, B2.get? it = some o ∧ isTI l 0 o) :=
  GV.grow fun s Q E F q => by
    with_reducible refine wpAny_pyIter_tuple (hl.ext F.frz).tup ?_
    exact q _ _ ⟨fun b o e => Heap.get?_push_of_some _ e, by simp, rfl, rfl⟩ fun B' b x hn => ⟨_, rfl, F.fresh, _, hn _ _ (Nat.le_refl _) (Heap.get?_push_size _ rfl), rfl, rfl⟩
theorem FO.tuple {x : Str} {p : Pos} {body : List Stmt} {l : Addr} {vs : List Value} (I : Nat → Heap → Lo → Ow → Prop) (hh : c.A.handled = none) (hl : Tu B l vs) (h0 : ∀ B2, Bs c.n B B2 → I 0 B2 m own)
    (turn : ∀ i v B0 B2 m0 own1 q, vs[i]? = some v → Bs c.n B B0 → Bs c.n B0 B2 → I i B0 m0 own1 → XW c B2 (put m0 x v) (q :: own1) (execs body c.env) (forK c rest K q (I (i + 1))))
    (fin : ∀ B2 m1 own1, Bs c.n B B2 → I vs.length B2 m1 own1 → XW c B2 m1 own1 (execs rest c.env) K) (hx : c.env.kindOf x = some .local) (hk : c.env.scope.kind = .function) : FO c (.Name x p) body rest K m own B (.ref l) :=
  ⟨vs.length, isTI l, fun i _ v => vs[i]? = some v, fun i B m m' => ∃ v, vs[i]? = some v ∧ m' = put m x v, I, (GV.iterT hl).mono fun B2 w b ⟨it, e, h1, h2⟩ => ⟨it, e, h1, h2, fun i => NX.tuple hh hl i⟩, h0, fun i _ => TG.name hx hk,
    fun i B0 B2 m0 m1 own1 q hi b0 b2 hI ⟨v, hv, e⟩ => by subst e; exact turn i v B0 B2 m0 own1 q hv b0 b2 hI, fin⟩
theorem XW.tryE {body : List Stmt} {h₀ : ExceptHandler} {hs : List ExceptHandler} {pos : Pos} (h : XW c B m own (execs body c.env) (seqK c rest K)) : XW c B m own (execs (.Try body (h₀ :: hs) [] [] pos :: rest) c.env) K :=
  XW.cons ⟨fun s Q E F q => by
    with_reducible refine wpAny_Try_except (h.run s _ _ F fun f s1 B1 m1 own1 b1 F1 r1 => ?_)
    cases f with
    | next => show wpAny _ _ _ _ _ _; with_reducible exact wpAny_execs_nil (q _ s1 B1 m1 own1 b1 F1 r1)
    | brk => exact q _ s1 B1 m1 own1 b1 F1 r1
    | cont => exact q _ s1 B1 m1 own1 b1 F1 r1
    | ret v => exact q _ s1 B1 m1 own1 b1 F1 r1⟩
end
end Mine

end
section
open PySem PySem.W PyProof.Rows
set_option Elab.async false
set_option autoImplicit false
set_option linter.unusedVariables false
set_option maxRecDepth 100000
namespace Mine
section
variable {c : Cx} {B : Heap} {m : Lo} {own : Ow} {K : Flow → Heap → Lo → Ow → Prop} {rest : List Stmt}
noncomputable def joinOf (a b : Str) : Str := if (Txt.startswith b "/" || !(a != Str.empty)) then b else if Txt.endswith a "/" then a ++ b else a ++ (Str.ofString "/" ++ b)
theorem p_join {a b : Str} {t u : Tok} (room : c.A.depth + 1 < recursionLimit) (hh : c.A.handled = none) (ha : a.length ≤ 100000) (hb : b.length ≤ 100000) : GV c B m own (call (.ref 175) [.str a t, .str b u]) fun _ v => ∃ t, v = .str (joinOf a b) t := by
  refine GV.fnV (vs := [.str b u]) (binds := fun r => [kv "a" (.str a t), kv "p" r]) (fn_join c.w) rfl (by omega) rfl (by show 1 ≤ sizeLine; decide) (by decide +kernel) (fun r => locs (by rfl)) rfl rfl rfl fun s tu B1 b1 htu => ?_
  have room' : (sub c (fdOf 38 .none pathM (.ref 174)) 175 s).A.depth < recursionLimit := room
  refine XW.assign ((EV.callF (VV.glob (g_fspath _) rfl rfl rfl) (fn_fspath _) (AV.cons (VV.loc rfl rfl rfl) (fun B1 v b ev => AV.nil fun B2 b2 => by subst ev; exact fs_path room') fun _ => rfl) fun _ => rfl).mono fun B2 v b2 ev => ?_) rfl rfl rfl
  subst ev
  refine XW.assign ((EV.callF (VV.glob (g_getsep _) rfl rfl rfl) (fn_getsep _) (AV.cons (VV.loc rfl rfl rfl) (fun B1 v b ev => AV.nil fun B2 b2 => by subst ev; exact get_sep room') fun _ => rfl) fun _ => rfl).mono fun B3 v b3 r => ?_) rfl rfl rfl
  obtain ⟨t3, rfl⟩ := r
  refine XW.assign ((VV.loc rfl rfl rfl).mono fun B4 v b4 ev => ?_) rfl rfl rfl
  subst ev
  have htu' := htu.ext (b2.trans (b3.trans b4)).ext
  refine XW.tryE (XW.forG ((VV.loc rfl rfl rfl).mono fun B5 v b5 ev => ?_) fun _ => rfl)
  subst ev
  refine FO.tuple (fun i B m own => own = [] ∧ ((i = 0 ∧ m = [kv "p" (.ref tu), kv "a" (.str a t), kv "sep" (.str "/" t3), kv "path" (.str a t)]) ∨ (i = 1 ∧ ∃ t, m.lookup (Str.ofString "path") = some (.str (joinOf a b) t)))) hh (htu'.ext b5.ext) (fun B2 b2 => ⟨rfl, .inl ⟨rfl, rfl⟩⟩) ?_ ?_ rfl rfl
  · rintro i v B0 B6 m0 own1 q hv b0 b6 ⟨rfl, hI⟩
    rcases hI with ⟨rfl, rfl⟩ | ⟨rfl, _⟩
    · cases hv
      refine XW.assign ((EV.callF (VV.glob (g_fspath _) rfl rfl rfl) (fn_fspath _) (AV.cons (VV.loc rfl rfl rfl) (fun B1 v b ev => AV.nil fun B2 b2 => by subst ev; exact fs_path room') fun _ => rfl) fun _ => rfl).mono fun B7 v b7 ev => ?_) rfl rfl rfl
      subst ev
      refine XW.ite (TV.or2 (TV.ofV (EV.strM1 (VV.str (VV.loc rfl rfl rfl)) PySem.F.slot_str_startswith PySem.F.type_str_startswith (VV.str (VV.loc rfl rfl rfl)) (fun B1 t u => gv_startswith) (mc_of (fun _ => rfl) rfl rfl) fun _ => rfl) fun _ => rfl)
        fun _ => TV.not (TV.truthS (VV.str (VV.loc rfl rfl rfl)) (by omega) fun _ => rfl)) (fun hc B8 b8 => ?_) fun hc B8 b8 => ?_
      · refine XW.assign ((VV.loc rfl rfl rfl).mono fun B9 v b9 ev => ?_) rfl rfl rfl
        subst ev
        refine XW.nil (XW.nil ⟨_, rfl, rfl, .inr ⟨rfl, u, ?_⟩⟩)
        unfold joinOf
        rw [if_pos hc]; rfl
      · refine XW.ite (TV.ofV (EV.strM1 (VV.str (VV.loc rfl rfl rfl)) PySem.F.slot_str_endswith PySem.F.type_str_endswith (VV.str (VV.loc rfl rfl rfl)) (fun B1 t u => gv_endswith) (mc_of (fun _ => rfl) rfl rfl) fun _ => rfl) fun _ => rfl) (fun hd B9 b9 => ?_) fun hd B9 b9 => ?_
        · refine XW.aug rfl (VV.loc rfl rfl rfl) (fun B10 v b10 ev => ?_) rfl rfl
          subst ev
          refine (gv_iadd_str (by unfold sizeLine; omega)).mono fun B11 v b11 r => ?_
          obtain ⟨t11, rfl⟩ := r
          refine XW.nil (XW.nil (XW.nil ⟨_, rfl, rfl, .inr ⟨rfl, t11, ?_⟩⟩))
          unfold joinOf
          rw [if_neg (by rw [hc]; decide), if_pos hd]; rfl
        · refine XW.aug rfl (SV.add (VV.str (VV.loc rfl rfl rfl)) (VV.str (VV.loc rfl rfl rfl)) (by show 1 + b.length ≤ sizeLine; unfold sizeLine; omega)) (fun B10 v b10 r => ?_) rfl rfl
          obtain ⟨t10, rfl⟩ := r
          refine (gv_iadd_str (by rw [PySem.Str.length_append]; show a.length + (1 + b.length) ≤ sizeLine; unfold sizeLine; omega)).mono fun B11 v b11 r => ?_
          obtain ⟨t11, rfl⟩ := r
          refine XW.nil (XW.nil (XW.nil ⟨_, rfl, rfl, .inr ⟨rfl, t11, ?_⟩⟩))
          unfold joinOf
          rw [if_neg (by rw [hc]; decide), if_neg (by rw [hd]; decide)]; rfl
    · cases hv
  · rintro B6 m1 own1 b6 ⟨rfl, hI⟩
    rcases hI with ⟨h, _⟩ | ⟨_, t6, hm⟩
    · cases h
    · refine XW.nil (XW.ret ((VV.loc hm rfl rfl).mono fun B7 v b7 ev => ⟨t6, ev⟩))
end
end Mine

end
section
open PySem PySem.W PyProof.Rows
set_option Elab.async false
set_option autoImplicit false
set_option linter.unusedVariables false
set_option maxRecDepth 100000
namespace Mine
section
variable {c : Cx} {B : Heap} {m : Lo} {own : Ow} {K : Flow → Heap → Lo → Ow → Prop} {rest : List Stmt}
/-! ranges -/
noncomputable def Rg (h : Heap) (r : Addr) (a b : Int) : Prop := ∃ t u v, IsRange h r a b 1 t u v
theorem Rg.ext {h h' : Heap} {r : Addr} {a b : Int} (x : Rg h r a b) (e : Ext h h') : Rg h' r a b := let ⟨t, u, v, q⟩ := x; ⟨t, u, v, e _ _ q⟩
theorem gv_range1 {n : Int} {t : Tok} : GV c B m own (call (.type "range") [.int n t]) fun B1 v => ∃ r, v = .ref r ∧ Rg B1 r 0 n :=
  GV.grow fun s Q E F q => by
    with_reducible refine call_range_1 ?_
    exact q _ _ ⟨fun b o e => Heap.get?_push_of_some _ e, by simp, rfl, rfl⟩ fun B' b x hn => ⟨_, rfl, _, _, _, hn _ _ (Nat.le_refl _) (Heap.get?_push_size _ rfl)⟩
theorem gv_range2 {a n : Int} {t u : Tok} : GV c B m own (call (.type "range") [.int a t, .int n u]) fun B1 v => ∃ r, v = .ref r ∧ Rg B1 r a n :=
  GV.grow fun s Q E F q => by
    with_reducible refine call_range_2 ?_
    exact q _ _ ⟨fun b o e => Heap.get?_push_of_some _ e, by simp, rfl, rfl⟩ fun B' b x hn => ⟨_, rfl, _, _, _, hn _ _ (Nat.le_refl _) (Heap.get?_push_size _ rfl)⟩
noncomputable def isRI (a b : Int) (i : Nat) (o : Obj) : Prop := o = { cls := .type "range_iterator", dict := none, data := .fields #[rawInt (a + i), rawInt ((b - a).toNat - i), rawInt 1], slots := #[] }
theorem NX.range {B0 : Heap} {it : Addr} {a b : Int} {x : Str} {p : Pos} (hh : c.A.handled = none) (i : Nat) :
    NX c B0 it (isRI a b) i (decide (i < (b - a).toNat)) (.Name x p) fun _ v => ∃ t, v = .int (a + i) t :=
  ⟨fun B m own s Q E bb F h1 h2 => by
    obtain ⟨o, ho, rfl⟩ := F.ow _ (.head _)
    have hit : IsRangeIter s.heap it (a + i) ((b - a).toNat - i) 1 := ho
    by_cases hi : i < (b - a).toNat
    · with_reducible refine wpAny_pyNext_range_item hit (by omega) fun h' hit hs => h1 (decide_eq_true hi) _ _ fun Q' E' q' => ?_
      rw [letOwned_name]
      have F' : Fm c B m ((it, isRI a b (i + 1)) :: own) { s with heap := h', toks := s.toks + 1 } := F.step hs hit (by
        unfold isRI
        have e1 : a + (i : Int) + 1 = a + ((i + 1 : Nat) : Int) := by omega
        have e2 : ((b - a).toNat : Int) - (i : Int) - 1 = ((b - a).toNat : Int) - ((i + 1 : Nat) : Int) := by omega
        rw [e1, e2]) rfl rfl (Nat.le_succ _)
      with_reducible exact wpAny_pure (q' _ B (Bs.refl _ _) ⟨_, rfl⟩ F')
    · with_reducible refine wpAny_pyNext_range_end hh hit (by omega) fun h' hx => h2 (decide_eq_false hi) _ ?_
      exact F.lose (k := s.toks) (d := s.drawn) hx (Nat.le_refl _)⟩
theorem GV.iterR {r : Addr} {a b : Int} (hl : Rg B r a b) (ha : 0 ≤ a) (ha' : a < 2 ^ 60) (hb : 0 ≤ b) (hb' : b < 2 ^ 60) : GV c B m own (pyIter (.ref r)) fun B2 w => ∃ it, w = .ref it ∧ B.get? it = none ∧ (∃ o, B2.get? it = some o ∧ isRI a b 0 o) :=
  GV.grow fun s Q E F q => by
    obtain ⟨t, u, v, hr⟩ := hl.ext F.frz
    with_reducible refine wpAny_pyIter_range hr (small_one (by omega) (by omega) (by omega) (by omega)) ?_
    refine q _ _ ⟨fun b o e => Heap.get?_push_of_some _ e, by simp, rfl, rfl⟩ fun B' bb x hn => ⟨_, rfl, F.fresh, _, hn _ _ (Nat.le_refl _) (Heap.get?_push_size _ rfl), ?_⟩
    unfold isRI
    rw [rangeSize_one]
    have e1 : a + ((0 : Nat) : Int) = a := by omega
    rw [e1]
    have e2 : (if a < b then b - a else 0) = ((b - a).toNat : Int) - ((0 : Nat) : Int) := by split <;> omega
    rw [e2]
theorem FO.range {x : Str} {p : Pos} {body : List Stmt} {l : Addr} {a b : Int} (I : Nat → Heap → Lo → Ow → Prop) (hh : c.A.handled = none) (hl : Rg B l a b) (ha : 0 ≤ a) (ha' : a < 2 ^ 60) (hb : 0 ≤ b) (hb' : b < 2 ^ 60) (h0 : ∀ B2, Bs c.n B B2 → I 0 B2 m own)
    (turn : ∀ i t B0 B2 m0 own1 q, i < (b - a).toNat → Bs c.n B B0 → Bs c.n B0 B2 → I i B0 m0 own1 → XW c B2 (put m0 x (.int (a + (i : Nat)) t)) (q :: own1) (execs body c.env) (forK c rest K q (I (i + 1))))
    (fin : ∀ B2 m1 own1, Bs c.n B B2 → I (b - a).toNat B2 m1 own1 → XW c B2 m1 own1 (execs rest c.env) K) (hx : c.env.kindOf x = some .local) (hk : c.env.scope.kind = .function) : FO c (.Name x p) body rest K m own B (.ref l) :=
  ⟨(b - a).toNat, isRI a b, fun i _ v => ∃ t, v = .int (a + (i : Nat)) t, fun i B m m' => ∃ v, (∃ t, v = .int (a + (i : Nat)) t) ∧ m' = put m x v, I, (GV.iterR hl ha ha' hb hb').mono fun B2 w b ⟨it, e, h1, h2⟩ => ⟨it, e, h1, h2, fun i => NX.range hh i⟩, h0, fun i _ => TG.name hx hk,
    fun i B0 B2 m0 m1 own1 q hi b0 b2 hI ⟨v, ⟨t, hv⟩, e⟩ => by subst hv e; exact turn i t B0 B2 m0 own1 q hi b0 b2 hI, fin⟩
/-! insert at the front -/
theorem gx_insert {a : Addr} {pre post : Ow} {vs : List Value} {v : Value} {u : Tok} (hz : vs.length < sizeLine) : GX c B m (pre ++ (a, isL vs) :: post) (call (.builtin "list.insert") [.ref a, .int 0 u, v]) fun B' own' r => B' = B ∧ own' = pre ++ (a, isL (v :: vs)) :: post ∧ r = .none :=
  ⟨fun s Q E F q => by
    obtain ⟨o, ho, n, rfl⟩ := F.ow _ mem_mid
    have hT : s.TypeIs (.ref a) "list" := ⟨_, ho, rfl⟩
    with_reducible refine call_meets PySem.F.slot_list_insert hT PySem.F.entry_list_insert (PySem.F.args_list_insert_3 _ _ _) (PySem.AutoSeq1.list_insert_list_int_val_1 a vs.toArray n 0 u v (by decide) (by simp; omega)) ⟨ho, ?_⟩
    exact q _ _ B _ (Bs.refl _ _) (F.mapL (by simp)) ⟨rfl, rfl, rfl⟩⟩
/-- a method of an own list, two plain arguments -/
theorem EX.listM2 {o e f : Expr} {name : Str} {apos pos : Pos} {a : Addr} {vs : List Value} {id : String} {R1 : Heap → Value → Prop} {R2 : Heap → Value → Value → Prop} {R : Heap → Ow → Value → Prop} (ho : VV c B m own o (.ref a)) (ha : (a, isL vs) ∈ own) (slot : Slot "list" name id) (hty : typeOf (.builtin id) = pure (.type "method_descriptor"))
    (he : EV c B m own e R1) (hf : ∀ B1 v, Bs c.n B B1 → R1 B1 v → EV c B1 m own f fun B2 u => R2 B2 v u) (h : ∀ B1 v u, Bs c.n B B1 → R2 B1 v u → GX c B1 m own (call (.builtin id) [.ref a, v, u]) R) (hm : MC c o name apos pos [e, f])
    (hs : ∀ env, starEach [e, f] env = (false, eval e env) :: starEach [f] env) (hs2 : ∀ env, starEach [f] env = (false, eval f env) :: starEach [] env) : EX c B m own (.Call (.Attribute o name apos) [e, f] [] pos) R :=
  ⟨fun B' b => ⟨fun s Q E F q => by
    obtain ⟨pl, hm⟩ := hm
    with_reducible refine MethodCall_ (pl := pl) ((ho.run B' b).run s _ E F fun v s1 B1 b1 F1 r1 => ?_) hm
    subst r1
    obtain ⟨ob, hob, hL⟩ := F1.ow _ ha
    have hls : Ls s1.heap a vs := ⟨ob, hob, hL⟩
    have hpl : (backTo pos (starEach [f] c.env)).any (·.1) = false := by rw [hs2]; rfl
    with_reducible refine getMethod_builtin hls.list.typeIs PySem.F.plainAttrs_list slot hty (fun a' e => ?_) (callWith_method1 (args_cons ((he.run B1 (b.trans b1)).run s1 _ E F1 fun v s2 B2 b2 F2 r2 => args_cons (((hf B2 v (b.trans (b1.trans b2)) r2).run B2 (Bs.refl _ _)).run s2 _ E F2 fun u s3 B3 b3 F3 r3 => args_nil ?_) (hs2 _)) (hs _)) (hs _) hpl)
    · cases e
      obtain ⟨n, rfl⟩ := hL
      exact ⟨_, hob, rfl⟩
    · show wpAny _ _ (call (.builtin id) [.ref a, v, u]) _ _ _
      with_reducible exact (h B3 v u (b.trans (b1.trans (b2.trans b3))) r3).run s3 _ E F3 fun v s4 B4 own4 b4 F4 r4 => q v s4 B4 own4 (b1.trans (b2.trans (b3.trans b4))) F4 r4⟩⟩
end
/-- split, again and again -/
noncomputable def splitN : Nat → Str → List Str → Str × List Str
  | 0, x, rows => (x, rows)
  | n + 1, x, rows => splitN n (headOf x) (tailOf x :: rows)
theorem headOf_le (x : Str) : (headOf x).length ≤ x.length := by
  have h := Txt.slice_le x none (some (Txt.rfind x "/" + 1))
  unfold headOf
  split
  · exact Nat.le_trans (len_rstripChars _ _) h
  · exact h
theorem tailOf_le (x : Str) : (tailOf x).length ≤ x.length := Txt.slice_le x _ _
theorem fn_lsplit (w : World) : FnK w 222 (fdOf 46 .none lawM (.ref 221)) := ⟨⟨.type "function", none, #[], by kernel_rfl⟩, by kernel_rfl⟩
theorem g_split (w : World) : nsIn (KK w) mainGlobals "split" = some (some (.ref 182)) := by kernel_rfl
section
variable {c : Cx} {B : Heap} {m : Lo} {own : Ow}
theorem SL.of {h : Heap} {a : Addr} {xs : List Str} {ts : List Tok} (hl : Ls h a ((xs.zip ts).map fun p => .str p.1 p.2)) (e : xs.length = ts.length) : SL h a xs := ⟨xs.zip ts, hl, by rw [List.map_fst_zip]; omega⟩
theorem law_split {x : Str} {t u : Tok} {n : Nat} (room : c.A.depth + 2 < recursionLimit) (hh : c.A.handled = none) (hx : x.length ≤ 100000) (hn : n ≤ 1000) :
    GV c B m own (call (.ref 222) [.str x t, .int n u]) fun B1 v => ∃ r, v = .ref r ∧ B.get? r = none ∧ SL B1 r ((splitN n x []).1 :: (splitN n x []).2) := by
  refine GV.fn (binds := [kv "path" (.str x t), kv "size" (.int n u)]) (fn_lsplit c.w) rfl (by omega) (fun s k => BindsTo.of_eq rfl) (by decide +kernel) (locs (by rfl)) rfl rfl rfl fun s => ?_
  have room' : (sub c (fdOf 46 .none lawM (.ref 221)) 222 s).A.depth + 1 < recursionLimit := by show c.A.depth + 1 + 1 < recursionLimit; omega
  refine XW.assignNew (P := isL []) (D := fun _ => True) ((EV.list (R := fun _ vs => vs = []) (AV.nil fun _ _ => rfl) (by rintro _ _ rfl; exact Nat.zero_le _) fun _ _ _ _ e => e).mono fun B1 v b1 r => ?_) (fun a B1 hna b1 _ => ?_) rfl rfl rfl
  · obtain ⟨a, vs, rfl, ha, hl, rfl⟩ := r
    exact ⟨a, rfl, ha, hl, trivial⟩
  refine XW.forG ((EV.callT (VV.bl (bl_range _) rfl rfl rfl rfl) (AV.cons (VV.loc rfl rfl rfl) (fun B1 v b ev => AV.nil fun B2 b2 => by subst ev; exact gv_range1) fun _ => rfl) (fun _ => rfl) fun _ => rfl).mono fun B2 v b2 r => ?_) fun _ => rfl
  obtain ⟨r, rfl, hr⟩ := r
  refine FO.range (fun i B m own => ∃ (y : Str) (rows : List Str) (ts : List Tok) (t' : Tok), m.lookup (Str.ofString "path") = some (.str y t') ∧ m.lookup (Str.ofString "rows") = some (.ref a) ∧ own = [(a, isL ((rows.zip ts).map fun p => .str p.1 p.2))] ∧ rows.length = ts.length ∧ rows.length = i ∧ y.length ≤ 100000 ∧ splitN (n - i) y rows = splitN n x []) hh hr (by omega) (by omega) (by omega) (by omega) (fun B3 b3 => ⟨x, [], [], t, rfl, rfl, rfl, rfl, rfl, hx, rfl⟩) ?_ ?_ rfl rfl
  · rintro i t3 B0 B3 m0 own1 q hi b0 b3 ⟨y, rows, ts, t', hm1, hm2, rfl, hl, hli, hy, e⟩
    have hm1' : (put m0 (Str.ofString "turn") (.int (0 + (i : Nat)) t3)).lookup (Str.ofString "path") = some (.str y t') := by rw [put_lookup, if_neg (by decide)]; exact hm1
    have hm2' : (put m0 (Str.ofString "turn") (.int (0 + (i : Nat)) t3)).lookup (Str.ofString "rows") = some (.ref a) := by rw [put_lookup, if_neg (by decide)]; exact hm2
    generalize put m0 (Str.ofString "turn") (.int (0 + (i : Nat)) t3) = m1 at hm1' hm2'
    refine XW.assign2 hh ((EV.callF (VV.glob (g_split _) rfl rfl rfl) (fn_split _) (AV.cons (VV.loc hm1' rfl rfl) (fun B1 v b ev => AV.nil fun B2 b2 => by subst ev; exact p_split room' hh hy) fun _ => rfl) fun _ => rfl).mono fun B4 v b4 r => ?_) rfl rfl rfl rfl rfl
    obtain ⟨tu, t1, t2, rfl, htu⟩ := r
    refine ⟨tu, _, _, rfl, htu, ?_⟩
    have hm3 : (put (put m1 (Str.ofString "path") (.str (headOf y) t1)) (Str.ofString "row") (.str (tailOf y) t2)).lookup (Str.ofString "path") = some (.str (headOf y) t1) := by rw [put_lookup, if_neg (by decide), put_lookup, if_pos rfl]
    have hm4 : (put (put m1 (Str.ofString "path") (.str (headOf y) t1)) (Str.ofString "row") (.str (tailOf y) t2)).lookup (Str.ofString "rows") = some (.ref a) := by rw [put_lookup, if_neg (by decide), put_lookup, if_neg (by decide)]; exact hm2'
    have hm5 : (put (put m1 (Str.ofString "path") (.str (headOf y) t1)) (Str.ofString "row") (.str (tailOf y) t2)).lookup (Str.ofString "row") = some (.str (tailOf y) t2) := by rw [put_lookup, if_pos rfl]
    generalize put (put m1 (Str.ofString "path") (.str (headOf y) t1)) (Str.ofString "row") (.str (tailOf y) t2) = m2 at hm3 hm4 hm5
    refine XW.exprX (EX.listM2 (VV.loc hm4 rfl rfl) (.tail _ (.head _)) PySem.F.slot_list_insert PySem.F.type_list_insert IV.lit (R2 := fun _ v u => (∃ t, v = .int 0 t) ∧ u = .str (tailOf y) t2) (fun B5 v b5 r => (VV.loc hm5 rfl rfl).mono fun B6 u b6 eu => ⟨r, eu⟩) (fun B5 v u b5 r => ?_) (mc_of (fun _ => rfl) rfl rfl) (fun _ => rfl) fun _ => rfl) rfl rfl
    obtain ⟨⟨t5, rfl⟩, rfl⟩ := r
    refine (gx_insert (pre := [q]) (post := []) (by simp; unfold sizeLine; omega)).mono fun B6 own' v b6 r => ?_
    obtain ⟨rfl, rfl, rfl⟩ := r
    refine XW.nil ⟨_, rfl, headOf y, tailOf y :: rows, t2 :: ts, t1, hm3, hm4, rfl, by simp [hl], by simp [hli], Nat.le_trans (headOf_le y) hy, ?_⟩
    have : n - i = (n - (i + 1)) + 1 := by omega
    rw [this] at e
    exact e
  · rintro B3 m1 own1 b3 ⟨y, rows, ts, t', hm1, hm2, rfl, hl, hli, hy, e⟩
    have h0 : n - ((n : Int) - 0).toNat = 0 := by omega
    rw [h0] at e
    rw [← e]
    refine XW.give hna fun B4 b4 hfr => ?_
    have hfr : Ls B4 a ((rows.zip ts).map fun p => .str p.1 p.2) := hfr
    refine XW.ret (EV.binop (EV.list (R := fun _ vs => vs = [.str y t']) (AV.cons (VV.loc hm1 rfl rfl) (fun B4 v b4 ev => AV.nil fun B5 b5 => by rw [ev]) fun _ => rfl) (by rintro _ _ rfl; show 1 ≤ sizeLine; decide) fun _ _ _ _ e => e) fun B5 v b5 r => ?_)
    obtain ⟨l1, vs, rfl, hl1, hl2, rfl⟩ := r
    refine (VV.loc hm2 rfl rfl).mono fun B6 v b6 ev => ?_
    subst ev
    refine (gv_add_list (hl2.ext b6.ext) (hfr.ext (b5.trans b6).ext) (by simp; unfold sizeLine; omega)).mono fun B7 v b7 r => ?_
    obtain ⟨r, rfl, hr, hl3⟩ := r
    exact ⟨r, rfl, bs_none (b1.trans (b2.trans (b3.trans (b4.trans (b5.trans b6))))) hr, SL.of (xs := y :: rows) (ts := t' :: ts) hl3 (by simp [hl])⟩
end
end Mine

end
section
open PySem PySem.W PyProof.Rows
set_option Elab.async false
set_option autoImplicit false
set_option linter.unusedVariables false
set_option maxRecDepth 100000
namespace Mine
/-! texts as lists of numbers -/
noncomputable abbrev S (l : List Nat) : Str := ⟨l.toArray⟩
theorem S_app (a b : List Nat) : S a ++ S b = S (a ++ b) := PySem.Str.ext' (by show a.toArray ++ b.toArray = (a ++ b).toArray; simp)
theorem S_len (a : List Nat) : (S a).length = a.length := by simp [Str.length]
theorem S_inj {a b : List Nat} (h : S a = S b) : a = b := by injection h with h; injection h
theorem S_eq (x : Str) : x = S x.cps.toList := by obtain ⟨⟨l⟩⟩ := x; rfl
theorem S_beq (a b : List Nat) : (S a == S b) = (a == b) := by
  by_cases h : a = b
  · subst h; simp
  · rw [beq_eq_false_iff_ne.mpr h, beq_eq_false_iff_ne.mpr fun e => h (S_inj e)]
section
variable {c : Cx} {B : Heap} {m : Lo} {own : Ow} {K : Flow → Heap → Lo → Ow → Prop} {rest : List Stmt}
/-! a text's signs -/
noncomputable def isSI (ty : String) (x : Str) (t : Tok) (i : Nat) (o : Obj) : Prop := o.cls = .type ty ∧ o.data = .fields #[.str x t, .int i 0]
theorem NX.str {B0 : Heap} {it : Addr} {x : Str} {t : Tok} {ty : String} {y : Str} {p : Pos} (hh : c.A.handled = none) (hty : ty = "str_ascii_iterator" ∨ ty = "str_iterator") (i : Nat) :
    NX c B0 it (isSI ty x t) i (decide (i < x.cps.toList.length)) (.Name y p) fun _ v => ∃ ch t', x.cps.toList[i]? = some ch ∧ v = .str (S [ch]) t' :=
  ⟨fun B m own s Q E b F h1 h2 => by
    obtain ⟨o, ho, hc, hd⟩ := F.ow _ (.head _)
    have hit : s.heap.IsStrIter it ty x t i := ⟨o, ho, hc, hd⟩
    by_cases hi : i < x.cps.toList.length
    · have hi' : i < x.cps.size := by simpa using hi
      have hx : x.cps[i]? = some x.cps[i] := Array.getElem?_eq_getElem hi'
      have hx2 : x.cps.toList[i]? = some x.cps[i] := by simp [hi']
      have go : ∀ h', h'.IsStrIter it ty x t (i + 1) → Heap.SameBut it s.heap h' → Q (some (.str ⟨#[x.cps[i]]⟩ s.toks)) { s with heap := h', toks := s.toks + 1 } := fun h' hit hs => h1 (decide_eq_true hi) _ _ fun Q' E' q' => by
        rw [letOwned_name]
        obtain ⟨o', ho', hc', hd'⟩ := hit
        have F' : Fm c B m ((it, isSI ty x t (i + 1)) :: own) { s with heap := h', toks := s.toks + 1 } := F.step hs ho' ⟨hc', hd'⟩ rfl rfl (Nat.le_succ _)
        with_reducible exact wpAny_pure (q' _ B (Bs.refl _ _) ⟨_, _, hx2, rfl⟩ F')
      rcases hty with rfl | rfl
      · with_reducible exact wpAny_pyNext_ascii_item hit hx go
      · with_reducible exact wpAny_pyNext_wide_item hit hx go
    · have hx : x.cps[i]? = none := by
        rw [Array.getElem?_eq_none_iff]; simpa using hi
      have go : ∀ h', Heap.ExtBut it s.heap h' → Q none { s with heap := h' } := fun h' hx => h2 (decide_eq_false hi) _ (F.lose (k := s.toks) (d := s.drawn) hx (Nat.le_refl _))
      rcases hty with rfl | rfl
      · with_reducible exact wpAny_pyNext_ascii_end hh hit hx go
      · with_reducible exact wpAny_pyNext_wide_end hh hit hx go⟩
theorem GV.iterS {x : Str} {t : Tok} (ty : String) (hty : ty = if x.cps.all (· < 128) then "str_ascii_iterator" else "str_iterator") : GV c B m own (pyIter (.str x t)) fun B2 w => ∃ it, w = .ref it ∧ B.get? it = none ∧ (∃ o, B2.get? it = some o ∧ isSI ty x t 0 o) :=
  GV.grow fun s Q E F q => by
    have go : ∀ ty', ty = ty' → Q (.ref s.heap.objs.size) { s with heap := s.heap.push { cls := .type ty', data := .fields #[.str x t, .int 0 0] } } := fun ty' e => by
      subst e
      exact q _ _ ⟨fun b o e => Heap.get?_push_of_some _ e, by simp, rfl, rfl⟩ fun B' b x hn => ⟨_, rfl, F.fresh, _, hn _ _ (Nat.le_refl _) (Heap.get?_push_size _ rfl), rfl, rfl⟩
    cases ha : x.cps.all (· < 128) with
    | true => rw [ha, if_pos rfl] at hty; with_reducible exact wpAny_pyIter_ascii ha (go _ hty)
    | false => rw [ha, if_neg (by decide)] at hty; with_reducible exact wpAny_pyIter_wide ha (go _ hty)
theorem FO.str {y : Str} {p : Pos} {body : List Stmt} {x : Str} {t : Tok} (I : Nat → Heap → Lo → Ow → Prop) (hh : c.A.handled = none) (h0 : ∀ B2, Bs c.n B B2 → I 0 B2 m own)
    (turn : ∀ i ch t' B0 B2 m0 own1 q, x.cps.toList[i]? = some ch → Bs c.n B B0 → Bs c.n B0 B2 → I i B0 m0 own1 → XW c B2 (put m0 y (.str (S [ch]) t')) (q :: own1) (execs body c.env) (forK c rest K q (I (i + 1))))
    (fin : ∀ B2 m1 own1, Bs c.n B B2 → I x.cps.toList.length B2 m1 own1 → XW c B2 m1 own1 (execs rest c.env) K) (hx : c.env.kindOf y = some .local) (hk : c.env.scope.kind = .function) : FO c (.Name y p) body rest K m own B (.str x t) :=
  ⟨x.cps.toList.length, isSI (if x.cps.all (· < 128) then "str_ascii_iterator" else "str_iterator") x t, fun i _ v => ∃ ch t', x.cps.toList[i]? = some ch ∧ v = .str (S [ch]) t', fun i B m m' => ∃ v, (∃ ch t', x.cps.toList[i]? = some ch ∧ v = .str (S [ch]) t') ∧ m' = put m y v, I,
    (GV.iterS _ rfl).mono fun B2 w b ⟨it, e, h1, h2⟩ => ⟨it, e, h1, h2, fun i => NX.str hh (by split <;> simp) i⟩, h0, fun i _ => TG.name hx hk,
    fun i B0 B2 m0 m1 own1 q hi b0 b2 hI ⟨v, ⟨ch, t', hv, ev⟩, e⟩ => by subst ev e; exact turn i ch t' B0 B2 m0 own1 q hv b0 b2 hI, fin⟩
/-! own lists read -/
noncomputable def SO (xs : List Str) (P : Obj → Prop) : Prop := ∃ l : List (Str × Tok), P = isL (strValues l) ∧ l.map (·.1) = xs
theorem gv_join_own {x : Str} {t : Tok} {a : Addr} {l : List (Str × Tok)} (ha : (a, isL (strValues l)) ∈ own) (hok : JoinOk x (l.map (·.1)) = true) : GV c B m own (call (.builtin "str.join") [.str x t, .ref a]) fun _ v => ∃ t, v = .str (Txt.join x (l.map (·.1))) t :=
  GV.still fun s Q E F q => by
    have hl : Ls s.heap a (strValues l) := F.ow _ ha
    with_reducible exact SC.join hl.list rfl hok (fun t' k => q _ k s.drawn ⟨t', rfl⟩)
theorem gv_tail_own {value slice : Expr} {a : Addr} {vs : List Value} {k : Int} {u : Tok} {v : Value} {ops : List Value} (ha : (a, isL vs) ∈ own) (h0 : 0 ≤ k) (hk : k < 2 ^ 63) (hv : vs[k.toNat]? = some v)
    (hs : subscripted slice false (.ref a) (.int k u) = operate ops (getItem (.ref a) (.int k u))) : GV c B m own (subscriptTail value slice (.ref a) (.int k u)) fun _ r => r = v :=
  GV.still fun s Q E F q => by
    have hl : Ls s.heap a vs := F.ow _ ha
    with_reducible exact tail_any hl.list.typeIs slot_list_getitem.lookup (wpAny_getItem_list hl.list h0 hk (by simpa using hv) (q v s.toks s.drawn rfl)) hs
/-! more of ints -/
theorem gv_ord {ch : Nat} {t : Tok} : GV c B m own (call (.builtin "ord") [.str (S [ch]) t]) fun _ v => ∃ t, v = .int ch t :=
  GV.still fun s Q E F q => by with_reducible exact P.ord_of_char (q _ _ s.drawn ⟨_, rfl⟩)
theorem gv_chr {i : Int} {t : Tok} (h0 : 0 ≤ i) (h1 : i ≤ 1114111) : GV c B m own (call (.builtin "chr") [.int i t]) fun _ v => ∃ t, v = .str (S [i.toNat]) t :=
  GV.still fun s Q E F q => by with_reducible exact chr_of_range h0 h1 (q _ _ s.drawn ⟨_, rfl⟩)
theorem gv_abs {i : Int} {t : Tok} : GV c B m own (call (.builtin "abs") [.int i t]) fun _ v => ∃ t, v = .int i.natAbs t :=
  GV.still fun s Q E F q => by
    with_reducible refine call_abs_int fun u k => q _ k s.drawn ⟨u, ?_⟩
    congr 1
    split <;> omega
theorem gv_fdiv {x y : Int} {t u : Tok} (hy : y ≠ 0) (hd : c.A.depth + Builtin.pylongFrames < recursionLimit) {l : List Env} (hfr : c.A.frames = some (c.env :: l)) (hgen : c.env.scope.isGenerator = false) (hco : c.env.scope.isCoroutine = false) (hb : c.env.builtins = builtinsNs) (hg : c.env.globals = mainGlobals) : GV c B m own (binaryOp .FloorDiv (.int x t) (.int y u)) fun _ v => ∃ t, v = .int (x.fdiv y) t :=
  GV.still fun s Q E F q => by
    exact PyProof.Rows.floordiv_int hy (q _ _ s.drawn ⟨_, rfl⟩) (.inr (PySem.PylongRoom.of (F.gl.lim.keeps F.frz) hd (PySem.SeerAt.of (F.gl.seer.keeps F.frz) rfl hfr hgen hco hb hg)))
theorem TV.inI2 {l : Expr} {x a b : Int} {p1 p2 tp pos : Pos} {k k1 k2 : Nat} (hl : IV c B m own l x) : TV c B m own (.Compare l [.In] [.Tuple [.Constant (.int a) k1 p1, .Constant (.int b) k2 p2] k tp] pos) (a == x || b == x) :=
  TV.cmp hl (fun B1 v b1 ⟨t, ea⟩ => (EV.tuple (R := fun _ vs => ∃ t1 t2, vs = [.int a t1, .int b t2]) (AV.cons IV.lit (fun B2 v b2 ⟨t1, e1⟩ => AV.cons IV.lit (fun B3 u b3 ⟨t2, e2⟩ => AV.nil fun B4 b4 => ⟨t1, t2, by rw [e1, e2]⟩) fun _ => rfl) fun _ => rfl)
    (by rintro _ _ ⟨_, _, rfl⟩; exact two_le) fun _ _ _ _ e => e).mono fun B2 v b2 r => by
      obtain ⟨tu, vs, rfl, ha, ht, t1, t2, rfl⟩ := r
      subst ea
      refine GV.still fun s Q E F q => ?_
      have hT : IsTup s.heap tu [.int a t1, .int b t2].toArray := ⟨_, F.frz _ _ ht, rfl, 0, rfl⟩
      with_reducible refine in_tuple_ints (ns := [a, b]) hT (.cons _ t1 (.cons _ t2 .nil)) ?_
      exact q _ s.toks s.drawn (by simp)) rfl
end
end Mine

end
section
open PySem PySem.W PyProof.Rows
set_option Elab.async false
set_option autoImplicit false
set_option linter.unusedVariables false
set_option maxRecDepth 100000
namespace Mine
theorem lk_same {m : Lo} {x : Str} {v : Value} : (put m x v).lookup x = some v := by rw [put_lookup, if_pos rfl]
theorem lk_other {m : Lo} {x y : Str} {v u : Value} (h : m.lookup y = some u) (hne : (y == x) = false := by decide) : (put m x v).lookup y = some u := by
  rw [put_lookup, if_neg (by simpa using hne)]; exact h
/-! codes and rows -/
noncomputable def hexd (n : Nat) : Nat := if n < 10 then 48 + n else 55 + n
noncomputable def special (ch : Nat) : Bool := ch == 61 || (ch == 0 || ch == 233)
noncomputable def codeOf (ch : Nat) : List Nat := if special ch then [61, hexd (ch / 16), hexd (ch % 16)] else [ch]
noncomputable def takeRow (w : Nat) : List Nat → List (List Nat) → List Nat × List (List Nat)
  | row, [] => (row, [])
  | row, c :: cs => if (row ++ c).length < w then takeRow w (row ++ c) cs else (row, c :: cs)
noncomputable def rowsOf (w : Nat) : Nat → List (List Nat) → List (List Nat)
  | 0, codes => [codes.flatten]
  | n + 1, codes => if w < codes.flatten.length then ((takeRow w [] codes).1 ++ [61]) :: rowsOf w n (takeRow w [] codes).2 else [codes.flatten]
theorem codeOf_len (ch : Nat) : 1 ≤ (codeOf ch).length ∧ (codeOf ch).length ≤ 3 := by unfold codeOf; split <;> simp
theorem takeRow_flat (w : Nat) : ∀ (cs : List (List Nat)) (row : List Nat), (takeRow w row cs).1 ++ (takeRow w row cs).2.flatten = row ++ cs.flatten
  | [], row => by simp [takeRow]
  | c :: cs, row => by
    unfold takeRow
    split
    · rw [takeRow_flat w cs]; simp
    · rfl
theorem takeRow_len (w : Nat) : ∀ (cs : List (List Nat)) (row : List Nat), (takeRow w row cs).2.length ≤ cs.length
  | [], row => by simp [takeRow]
  | c :: cs, row => by
    unfold takeRow
    split
    · exact Nat.le_succ_of_le (takeRow_len w cs _)
    · simp
theorem takeRow_lt (w : Nat) (c : List Nat) (cs : List (List Nat)) (h : c.length < w) : (takeRow w [] (c :: cs)).2.length < (c :: cs).length := by
  unfold takeRow
  rw [if_pos (by simpa using h)]
  exact Nat.lt_succ_of_le (takeRow_len w cs _)
theorem takeRow_mem (w : Nat) : ∀ (cs : List (List Nat)) (row : List Nat), ∀ c ∈ (takeRow w row cs).2, c ∈ cs
  | [], row, c, h => by simp [takeRow] at h
  | d :: cs, row, c, h => by
    unfold takeRow at h
    split at h
    · exact .tail _ (takeRow_mem w cs _ c h)
    · exact h
theorem rowsOf_more (w : Nat) (hw : 4 ≤ w) : ∀ (n k : Nat) (codes : List (List Nat)), (∀ c ∈ codes, c.length ≤ 3) → codes.length ≤ n → codes.length ≤ k → rowsOf w n codes = rowsOf w k codes
  | 0, 0, codes, _, _, _ => rfl
  | 0, k + 1, codes, _, h, _ => by
    have : codes = [] := List.eq_nil_of_length_eq_zero (by omega)
    subst this; simp [rowsOf]
  | n + 1, 0, codes, _, _, h => by
    have : codes = [] := List.eq_nil_of_length_eq_zero (by omega)
    subst this; simp [rowsOf]
  | n + 1, k + 1, codes, hc, h1, h2 => by
    unfold rowsOf
    split
    · rename_i hf
      cases codes with
      | nil => simp at hf
      | cons c cs =>
        have hlt := takeRow_lt w c cs (by have := hc c (.head _); omega)
        rw [rowsOf_more w hw n k _ (fun d hd => hc d (takeRow_mem w _ _ d hd)) (by omega) (by omega)]
    · rfl
theorem rowsOf_step (w : Nat) (hw : 4 ≤ w) (codes : List (List Nat)) (hc : ∀ c ∈ codes, c.length ≤ 3) (hf : w < codes.flatten.length) :
    rowsOf w codes.length codes = ((takeRow w [] codes).1 ++ [61]) :: rowsOf w (takeRow w [] codes).2.length (takeRow w [] codes).2 := by
  cases codes with
  | nil => simp at hf
  | cons c cs =>
    have hlt := takeRow_lt w c cs (by have := hc c (.head _); omega)
    show rowsOf w (cs.length + 1) (c :: cs) = _
    rw [rowsOf, if_pos hf]
    rw [rowsOf_more w hw cs.length _ _ (fun d hd => hc d (takeRow_mem w _ _ d hd)) (by simp at hlt; omega) (Nat.le_refl _)]
theorem rowsOf_last (w : Nat) (codes : List (List Nat)) (hf : ¬ w < codes.flatten.length) : rowsOf w codes.length codes = [codes.flatten] := by
  cases codes with
  | nil => rfl
  | cons c cs => show rowsOf w (cs.length + 1) (c :: cs) = _; rw [rowsOf, if_neg hf]
theorem joinS (sep : List Nat) : ∀ xs : List (List Nat), Str.join (S sep) (xs.map S) = S (List.intercalate sep xs)
  | [] => rfl
  | [x] => by simp [Str.join, List.intercalate]
  | x :: y :: xs => by
    have ih := joinS sep (y :: xs)
    rw [List.map_cons] at ih
    show S x ++ S sep ++ Str.join (S sep) (S y :: xs.map S) = _
    rw [ih, S_app, S_app]
    simp [List.intercalate, List.intersperse]
theorem inter_nil (xs : List (List Nat)) : List.intercalate [] xs = xs.flatten := by
  unfold List.intercalate
  induction xs with
  | nil => rfl
  | cons x xs ih => cases xs with
    | nil => rfl
    | cons y ys => simp only [List.intersperse, List.flatten_cons, List.nil_append] at ih ⊢; rw [ih]
theorem txt_join (sep : List Nat) (xs : List (List Nat)) : Txt.join (S sep) (xs.map S) = S (List.intercalate sep xs) := by
  rw [← joinS]; exact PySem.StrLaws.glued_eq_join _ _
theorem fn_rows (w : World) : FnK w 208 (fdOf 44 .none lawM (.ref 207)) := ⟨⟨.type "function", none, #[], by kernel_rfl⟩, by kernel_rfl⟩
theorem joinOk_of {sep : Str} {l : List (Str × Tok)} {b : Nat} (hb : ∀ p ∈ l, p.1.length ≤ b) (h : l.length * b + l.length * sep.length ≤ 16777216) : JoinOk sep (l.map (·.1)) = true := by
  unfold JoinOk
  rw [Bool.not_eq_true']
  refine PySem.StrLaws.joinFits (texts := l.map (·.1)) (sep := sep) (B := b) (fun y hy => ?_) (by simpa using h)
  obtain ⟨p, hp, rfl⟩ := List.mem_map.mp hy
  exact hb p hp
section
variable {c : Cx} {B : Heap} {m : Lo} {own : Ow}
theorem TV.eqS' {l r : Expr} {pos : Pos} {x y : List Nat} (hl : SV c B m own l (S x)) (hr : SV c B m own r (S y)) : TV c B m own (.Compare l [.Eq] [r] pos) (x == y) := by
  rw [← S_beq]; exact TV.eqS hl hr
theorem law_rows {l : List Nat} {t u : Tok} {w : Nat} (room : c.A.depth + 101 < recursionLimit) {fr : List Env} (hfr : c.A.frames = some fr) (hh : c.A.handled = none) (hl : ∀ ch ∈ l, ch < 256) (hlen : l.length ≤ 1000) (hw : 4 ≤ w) (hw' : w ≤ 1000) :
    GV c B m own (call (.ref 208) [.str (S l) t, .int w u]) fun B1 v => ∃ r, v = .ref r ∧ B.get? r = none ∧ SL B1 r ((rowsOf w (l.map codeOf).length (l.map codeOf)).map S) := by
  refine GV.fn (binds := [kv "name" (.str (S l) t), kv "width" (.int w u)]) (fn_rows c.w) rfl (by omega) (fun s k => BindsTo.of_eq rfl) (by decide +kernel) (locs (by rfl)) rfl rfl rfl fun s => ?_
  have hd : (sub c (fdOf 44 .none lawM (.ref 207)) 208 s).A.depth + Builtin.pylongFrames < recursionLimit := by show c.A.depth + 1 + 100 < recursionLimit; omega
  have hfr' : (sub c (fdOf 44 .none lawM (.ref 207)) 208 s).A.frames = some ((sub c (fdOf 44 .none lawM (.ref 207)) 208 s).env :: fr) := by show (c.A.frames.map _) = _; rw [hfr]; rfl
  refine XW.assignNew (P := isL []) (D := fun _ => True) ((EV.list (R := fun _ vs => vs = []) (AV.nil fun _ _ => rfl) (by rintro _ _ rfl; exact Nat.zero_le _) fun _ _ _ _ e => e).mono fun B1 v b1 r => ?_) (fun a B1 hna b1 _ => ?_) rfl rfl rfl
  · obtain ⟨a, vs, rfl, ha, hl, rfl⟩ := r
    exact ⟨a, rfl, ha, hl, trivial⟩
  refine XW.forG ((VV.loc (lk_other rfl) rfl rfl).mono fun B2 v b2 ev => ?_) fun _ => rfl
  subst ev
  obtain ⟨J, hJ⟩ : ∃ J : Nat → Heap → Lo → Ow → Prop, J = fun i B m own => m.lookup (Str.ofString "width") = some (.int w u) ∧ m.lookup (Str.ofString "codes") = some (.ref a) ∧ ∃ cs : List (Str × Tok), own = [(a, isL (strValues cs))] ∧ cs.map (·.1) = ((l.take i).map codeOf).map S := ⟨_, rfl⟩
  refine FO.str J hh (fun B3 b3 => by rw [hJ]; exact ⟨rfl, rfl, [], rfl, rfl⟩) ?_ ?_ rfl rfl
  · intro i ch t3 B0 B3 m0 own1 q hch b0 b3 g
    rw [hJ] at g
    obtain ⟨hm1, hm2, cs, rfl, hcs⟩ := g
    have hch : l[i]? = some ch := hch
    have hlt : ch < 256 := hl ch (List.mem_of_getElem? hch)
    have hil : i < l.length := (List.getElem?_eq_some_iff.mp hch).1
    have hcl : cs.length = i := by have := congrArg List.length hcs; simp at this; omega
    have htk : (l.take (i + 1)).map codeOf = (l.take i).map codeOf ++ [codeOf ch] := by rw [List.take_add_one, hch]; simp
    have key : ∀ (x : Str) (t' : Tok), x = S (codeOf ch) → ∃ cs' : List (Str × Tok), [(a, isL (strValues cs ++ [.str x t']))] = [(a, isL (strValues cs'))] ∧ cs'.map (·.1) = ((l.take (i + 1)).map codeOf).map S := fun x t' e => by
      refine ⟨cs ++ [(x, t')], by simp [strValues], ?_⟩
      rw [htk, List.map_append, List.map_append, hcs, e]; rfl
    have ordI : ∀ (B4 : Heap) (p1 p2 pos : Pos), IV (sub c (fdOf 44 .none lawM (.ref 207)) 208 s) B4 (put m0 (Str.ofString "sign") (.str (S [ch]) t3)) (q :: [(a, isL (strValues cs))]) (.Call (.Name (Str.ofString "ord") p1) [.Name (Str.ofString "sign") p2] [] pos) ch := fun B4 p1 p2 pos =>
      EV.callB (VV.bl (bl_ord _) rfl rfl rfl rfl) (AV.cons (VV.loc lk_same rfl rfl) (fun B5 v b5 ev => AV.nil fun B6 b6 => by subst ev; exact gv_ord) fun _ => rfl) (fun _ => rfl) fun _ => rfl
    refine XW.ite (x := special ch) ?_ (fun hc B4 b4 => ?_) fun hc B4 b4 => ?_
    · have e : special ch = (([ch] == [61]) || ((0 : Int) == (ch : Int) || (233 : Int) == (ch : Int))) := by
        unfold special
        have e1 : ([ch] == [61]) = (ch == 61) := by simp
        have e2 : ((0 : Int) == (ch : Int)) = (ch == 0) := by rw [Bool.eq_iff_iff]; simp; omega
        have e3 : ((233 : Int) == (ch : Int)) = (ch == 233) := by rw [Bool.eq_iff_iff]; simp; omega
        rw [e1, e2, e3]
      rw [e]
      exact TV.or2 (TV.eqS' (VV.str (VV.loc lk_same rfl rfl)) SV.lit) fun _ => TV.inI2 (ordI _ _ _ _)
    · have hidx : ∀ n : Nat, n < 16 → Txt.charAt (Str.ofString "0123456789ABCDEF") (n : Int) = some (hexd n) := by decide +kernel
      refine XW.exprX (EX.listM (VV.loc (lk_other hm2) rfl rfl) (.tail _ (.head _)) PySem.F.slot_list_append PySem.F.type_list_append (EX.of (R := fun _ own' v => own' = q :: [(a, isL (strValues cs))] ∧ ∃ t, v = .str (S (codeOf ch)) t) ?_) (fun B5 own5 v b5 r => ?_) (mc_of (fun _ => rfl) rfl rfl) fun _ => rfl) rfl rfl
      · have h1 : (ch : Int).fdiv 16 = ((ch / 16 : Nat) : Int) := by rw [Int.fdiv_eq_ediv_of_nonneg _ (by omega)]; rfl
        have h2 : (ch : Int).fmod 16 = ((ch % 16 : Nat) : Int) := by rw [Int.fmod_eq_emod_of_nonneg _ (by omega)]; rfl
        refine (SV.add (SV.add SV.lit (SV.idx (i := ((ch / 16 : Nat) : Int)) SV.lit ?_ (by omega) (by omega) (hidx _ (by omega)) fun _ _ => rfl) (by show 1 + 1 ≤ sizeLine; decide)) (SV.idx (i := ((ch % 16 : Nat) : Int)) SV.lit ?_ (by omega) (by omega) (hidx _ (by omega)) fun _ _ => rfl) (by rw [PySem.Str.length_append]; exact (by decide : 1 + 1 + 1 ≤ sizeLine))).mono fun B5 v b5 r => ⟨rfl, ?_⟩
        · rw [← h1]
          exact EV.binop (ordI _ _ _ _) fun B5 v b5 ⟨t5, ea⟩ => IV.lit.mono fun B6 u b6 ⟨t6, eu⟩ => by subst ea eu; exact gv_fdiv (by decide) hd hfr' rfl rfl rfl rfl
        · rw [← h2]
          exact IV.mod (ordI _ _ _ _) IV.lit (by decide)
        · obtain ⟨t', rfl⟩ := r
          refine ⟨t', ?_⟩
          unfold codeOf
          rw [if_pos hc]
          rfl
      · obtain ⟨rfl, t5, rfl⟩ := r
        refine (gx_append (pre := [q]) (post := []) (by simp [strValues, hcl]; unfold sizeLine; omega)).mono fun B6 own' v b6 r => ?_
        obtain ⟨rfl, rfl, rfl⟩ := r
        exact XW.nil (XW.nil ⟨_, rfl, by rw [hJ]; exact ⟨lk_other hm1, lk_other hm2, key _ _ rfl⟩⟩)
    · refine XW.exprX (EX.listM (VV.loc (lk_other hm2) rfl rfl) (.tail _ (.head _)) PySem.F.slot_list_append PySem.F.type_list_append (EX.of (R := fun _ own' v => own' = q :: [(a, isL (strValues cs))] ∧ v = .str (S [ch]) t3) ((VV.loc lk_same rfl rfl).mono fun B5 v b5 ev => ⟨rfl, ev⟩)) (fun B5 own5 v b5 r => ?_) (mc_of (fun _ => rfl) rfl rfl) fun _ => rfl) rfl rfl
      obtain ⟨rfl, rfl⟩ := r
      refine (gx_append (pre := [q]) (post := []) (by simp [strValues, hcl]; unfold sizeLine; omega)).mono fun B6 own' v b6 r => ?_
      obtain ⟨rfl, rfl, rfl⟩ := r
      exact XW.nil (XW.nil ⟨_, rfl, by rw [hJ]; exact ⟨lk_other hm1, lk_other hm2, key _ _ (by unfold codeOf; rw [if_neg (by rw [hc]; decide)])⟩⟩)
  · intro B3 m1 own1 b3 g
    rw [hJ] at g
    obtain ⟨hm1, hm2, cs, rfl, hcs⟩ := g
    rw [show (S l).cps.toList.length = l.length from rfl, List.take_length] at hcs
    refine XW.assignNew (P := isL []) (D := fun _ => True) ((EV.list (R := fun _ vs => vs = []) (AV.nil fun _ _ => rfl) (by rintro _ _ rfl; exact Nat.zero_le _) fun _ _ _ _ e => e).mono fun B1 v b1 r => ?_) (fun b B4 hnb b4 _ => ?_) rfl rfl rfl
    · obtain ⟨a, vs, rfl, ha, hl, rfl⟩ := r
      exact ⟨a, rfl, ha, hl, trivial⟩
    have joinE : ∀ (B5 : Heap) (m5 : Lo) (own5 : Ow) (k : Nat) (p1 p2 p3 pos : Pos) (cs : List (Str × Tok)) (codes : List (List Nat)), p2.endLine = pos.line → m5.lookup (Str.ofString "codes") = some (.ref a) → (a, isL (strValues cs)) ∈ own5 → cs.map (·.1) = codes.map S → (∀ x ∈ codes, 1 ≤ x.length ∧ x.length ≤ 3) → codes.length ≤ 1000 →
        SV (sub c (fdOf 44 .none lawM (.ref 207)) 208 s) B5 m5 own5 (.Call (.Attribute (.Constant (.str (Str.ofString "")) k p1) (Str.ofString "join") p2) [.Name (Str.ofString "codes") p3] [] pos) (S codes.flatten) := fun B5 m5 own5 k p1 p2 p3 pos cs codes hp hm ho he hc hz => by
      refine EV.strM SV.lit PySem.F.slot_str_join PySem.F.type_str_join (AV.cons (VV.loc hm rfl rfl) (fun B6 v b6 ev => AV.nil fun B7 b7 t => ?_) fun _ => rfl) (mc_of (fun _ => rfl) rfl (by simp [hp])) (fun _ => rfl) fun _ => rfl
      subst ev
      refine (gv_join_own ho (joinOk_of (b := 3) (fun p hp => ?_) ?_)).mono fun B8 v b8 r => ?_
      · have : p.1 ∈ codes.map S := by rw [← he]; exact List.mem_map_of_mem hp
        obtain ⟨x, hx, e⟩ := List.mem_map.mp this
        rw [← e, S_len]; exact (hc x hx).2
      · have : cs.length = codes.length := by have := congrArg List.length he; simpa using this
        rw [this]; show codes.length * 3 + codes.length * 0 ≤ 16777216; omega
      · rw [he, show Str.ofString "" = S [] from rfl, txt_join, inter_nil] at r
        exact r
    have flat3 : ∀ codes : List (List Nat), (∀ x ∈ codes, 1 ≤ x.length ∧ x.length ≤ 3) → codes.flatten.length ≤ 3 * codes.length := fun codes h => by
      induction codes with
      | nil => simp
      | cons x xs ih =>
        have h1 := h x (.head _)
        have h2 := ih fun y hy => h y (.tail _ hy)
        simp only [List.flatten_cons, List.length_append, List.length_cons]; omega
    obtain ⟨I, hI⟩ : ∃ I : Nat → Heap → Lo → Ow → Prop, I = fun n B m own => m.lookup (Str.ofString "width") = some (.int w u) ∧ m.lookup (Str.ofString "codes") = some (.ref a) ∧ m.lookup (Str.ofString "rows") = some (.ref b) ∧ ∃ (codes acc : List (List Nat)) (cs rs : List (Str × Tok)), own = [(b, isL (strValues rs)), (a, isL (strValues cs))] ∧ cs.map (·.1) = codes.map S ∧ rs.map (·.1) = acc.map S ∧
        n = codes.length ∧ (∀ x ∈ codes, 1 ≤ x.length ∧ x.length ≤ 3) ∧ acc ++ rowsOf w codes.length codes = rowsOf w (l.map codeOf).length (l.map codeOf) ∧ acc.length + codes.length ≤ 1000 := ⟨_, rfl⟩
    refine XW.while I (l.map codeOf).length (by rw [hI]; refine ⟨lk_other hm1, lk_other hm2, lk_same, l.map codeOf, [], cs, [], rfl, hcs, rfl, rfl, fun x hx => ?_, rfl, by simpa using hlen⟩; obtain ⟨ch, _, rfl⟩ := List.mem_map.mp hx; exact codeOf_len ch) ?_
    intro n B5 m5 own5 b5 g
    rw [hI] at g
    obtain ⟨hw1, hw2, hw3, codes, acc, cs, rs, rfl, h1, h2, rfl, h4, h5, h6⟩ := g
    have hfl := flat3 codes h4
    refine ⟨_, TV.gt (IV.lenS (VV.bl (bl_len _) rfl rfl rfl rfl) (joinE _ _ _ _ _ _ _ _ cs codes rfl hw2 (.tail _ (.head _)) h1 h4 (by omega)) (by rw [S_len]; omega) fun _ => rfl) (VV.int (VV.loc hw1 rfl rfl)), fun hx B6 b6 => ?_, fun hx B6 b6 => ?_⟩
    · have hx : w < codes.flatten.length := by have := of_decide_eq_true hx; rw [S_len] at this; omega
      refine XW.assign (SV.lit.mono fun B7 v b7 ⟨t7, ev⟩ => ?_) rfl rfl rfl
      subst ev
      obtain ⟨W, hW⟩ : ∃ W : Nat → Heap → Lo → Ow → Prop, W = fun n B m own => m.lookup (Str.ofString "width") = some (.int w u) ∧ m.lookup (Str.ofString "codes") = some (.ref a) ∧ m.lookup (Str.ofString "rows") = some (.ref b) ∧ ∃ (row : List Nat) (tr : Tok) (codes' : List (List Nat)) (cs' : List (Str × Tok)), m.lookup (Str.ofString "row") = some (.str (S row) tr) ∧ own = [(b, isL (strValues rs)), (a, isL (strValues cs'))] ∧ cs'.map (·.1) = codes'.map S ∧
        n = codes'.length ∧ takeRow w row codes' = takeRow w [] codes ∧ row.length < w ∧ w < (row ++ codes'.flatten).length ∧ codes'.length ≤ codes.length ∧ ∀ x ∈ codes', x ∈ codes := ⟨_, rfl⟩
      refine XW.while W codes.length (by rw [hW]; exact ⟨lk_other hw1, lk_other hw2, lk_other hw3, [], t7, codes, cs, lk_same, rfl, h1, rfl, rfl, by show 0 < w; omega, by simpa using hx, Nat.le_refl _, fun _ h => h⟩) ?_
      intro n B8 m8 own8 b8 g
      rw [hW] at g
      obtain ⟨g1, g2, g3, row, tr, codes', cs', g4, rfl, e1, rfl, e3, e4, e5, e7, e6⟩ := g
      cases codes' with
      | nil => simp at e5; omega
      | cons d ds =>
        cases cs' with
        | nil => simp at e1
        | cons p ps =>
          obtain ⟨x, tx⟩ := p
          simp only [List.map_cons, List.cons.injEq] at e1
          obtain ⟨rfl, e1⟩ := e1
          have hd3 := h4 d (e6 d (.head _))
          have hdl : ds.length ≤ 1000 := by simp at e7; omega
          refine ⟨_, TV.lt (IV.lenS (x := S (row ++ d)) (VV.bl (bl_len _) rfl rfl rfl rfl) ?_ (by rw [S_len]; simp; omega) fun _ => rfl) (VV.int (VV.loc g1 rfl rfl)), fun hy B9 b9 => ?_, fun hy B9 b9 => ?_⟩
          · rw [← S_app]
            refine SV.add (VV.str (VV.loc g4 rfl rfl)) (EV.sub (VV.loc g2 rfl rfl) fun B9 o b9 eo => IV.lit.mono fun B10 v b10 ⟨t10, ev⟩ => ?_) (by rw [S_len, S_len]; unfold sizeLine; omega)
            subst eo ev
            exact (gv_tail_own (v := .str (S d) tx) (.tail _ (.head _)) (by decide) (by decide) rfl rfl).mono fun _ _ _ r => ⟨tx, r⟩
          · have hy : (row ++ d).length < w := by have := of_decide_eq_true hy; rw [S_len] at this; omega
            refine XW.augX g4 (EX.listM (VV.loc g2 rfl rfl) (.tail _ (.head _)) PySem.F.slot_list_pop PySem.F.type_list_pop (EX.of (R := fun _ own' v => own' = [(b, isL (strValues rs)), (a, isL (strValues ((S d, tx) :: ps)))] ∧ ∃ t, v = .int 0 t) (IV.lit.mono fun B10 v b10 r => ⟨rfl, r⟩))
              (R := fun _ own' v => own' = [(b, isL (strValues rs)), (a, isL (strValues ps))] ∧ v = .str (S d) tx) (fun B10 own10 v b10 r => ?_) (mc_of (fun _ => rfl) rfl rfl) fun _ => rfl) (fun B10 own10 v b10 r => ?_) rfl rfl
            · obtain ⟨rfl, t10, rfl⟩ := r
              refine (gx_pop (pre := [(b, isL (strValues rs))]) (post := []) (vs := strValues ps) (v := .str (S d) tx) ?_).mono fun B11 own' v b11 r => ⟨r.2.1, r.2.2⟩
              have := congrArg List.length e1
              simp [strValues] at this ⊢; unfold sizeLine; omega
            · obtain ⟨rfl, rfl⟩ := r
              refine (gv_iadd_str (by rw [S_len, S_len]; unfold sizeLine; omega)).mono fun B11 v b11 ⟨t11, ev⟩ => ?_
              subst ev
              refine XW.nil ⟨ds.length, Nat.lt_succ_self _, ?_⟩
              rw [hW]
              refine ⟨lk_other g1, lk_other g2, lk_other g3, row ++ d, t11, ds, ps, ?_, rfl, e1, rfl, ?_, hy, by simpa using e5, by simp at e7; omega, fun x hx => e6 x (.tail _ hx)⟩
              · rw [lk_same, S_app]
              · rw [← e3]
                conv => rhs; unfold takeRow
                rw [if_pos hy]
          · have hy : ¬ (row ++ d).length < w := by have := of_decide_eq_false hy; rw [S_len] at this; omega
            have e3' : takeRow w [] codes = (row, d :: ds) := by
              rw [← e3]; unfold takeRow; rw [if_neg hy]
            refine XW.exprX (EX.listM (VV.loc g3 rfl rfl) (.head _) PySem.F.slot_list_append PySem.F.type_list_append (EX.of (R := fun _ own' v => own' = [(b, isL (strValues rs)), (a, isL (strValues ((S d, tx) :: ps)))] ∧ ∃ t, v = .str (S (row ++ [61])) t) ?_) (fun B10 own10 v b10 r => ?_) (mc_of (fun _ => rfl) rfl rfl) fun _ => rfl) rfl rfl
            · refine (SV.add (VV.str (VV.loc g4 rfl rfl)) SV.lit (by rw [S_len]; show row.length + 1 ≤ sizeLine; unfold sizeLine; omega)).mono fun B10 v b10 r => ⟨rfl, ?_⟩
              obtain ⟨t10, rfl⟩ := r
              exact ⟨t10, by rw [show Str.ofString "=" = S [61] from rfl, S_app]⟩
            · obtain ⟨rfl, t10, rfl⟩ := r
              refine (gx_append (pre := []) (post := [(a, isL (strValues ((S d, tx) :: ps)))]) ?_).mono fun B11 own' v b11 r => ?_
              · have := congrArg List.length h2
                simp [strValues] at this ⊢; unfold sizeLine; omega
              obtain ⟨rfl, rfl, rfl⟩ := r
              have hstep := rowsOf_step w hw codes (fun x hx => (h4 x hx).2) hx
              rw [e3'] at hstep
              have hll : (d :: ds).length < codes.length := by
                cases codes with
                | nil => simp at hx
                | cons q qs =>
                  have := takeRow_lt w q qs (by have := h4 q (.head _); omega)
                  rw [e3'] at this; exact this
              refine XW.nil ⟨(d :: ds).length, hll, ?_⟩
              rw [hI]
              refine ⟨g1, g2, g3, d :: ds, acc ++ [row ++ [61]], (S d, tx) :: ps, rs ++ [(S (row ++ [61]), t10)], ?_, ?_, ?_, rfl, fun x hx => h4 x (e6 x hx), ?_, ?_⟩
              · simp [strValues]
              · rw [List.map_cons, List.map_cons, e1]
              · rw [List.map_append, List.map_append, h2]; rfl
              · rw [← h5, hstep]; simp
              · simp only [List.length_append, List.length_cons, List.length_nil] at hll ⊢; omega
    · have hx : ¬ w < codes.flatten.length := by have := of_decide_eq_false hx; rw [S_len] at this; omega
      refine XW.give hnb fun B7 b7 hfr => ?_
      have hfr : Ls B7 b (strValues rs) := hfr
      refine XW.ret (EV.binop (VV.loc hw3 rfl rfl) fun B8 v b8 ev => ?_)
      subst ev
      refine (EV.list (R := fun _ vs => ∃ t, vs = [.str (S codes.flatten) t]) (AV.cons (joinE _ _ _ _ _ _ _ _ cs codes rfl hw2 (.head _) h1 h4 (by omega)) (fun B9 v b9 ⟨t9, ev⟩ => AV.nil fun B10 b10 => ⟨t9, by rw [ev]⟩) fun _ => rfl) (by rintro _ _ ⟨_, rfl⟩; show 1 ≤ sizeLine; decide) fun _ _ _ _ e => e).mono fun B9 v b9 r => ?_
      obtain ⟨l1, vs, rfl, hl1, hl2, t9, rfl⟩ := r
      refine (gv_add_list (hfr.ext (b8.trans b9).ext) hl2 ?_).mono fun B10 v b10 r => ?_
      · have := congrArg List.length h2
        simp [strValues] at this ⊢; unfold sizeLine; omega
      obtain ⟨r, rfl, hr, hl3⟩ := r
      refine ⟨r, rfl, bs_none (b1.trans (b2.trans (b3.trans (b4.trans (b5.trans (b6.trans (b7.trans (b8.trans b9)))))))) hr, rs ++ [(S codes.flatten, t9)], by simpa [strValues] using hl3, ?_⟩
      rw [← h5, rowsOf_last w codes hx, List.map_append, List.map_append, h2]; rfl
end
end Mine

end
section
open PySem PySem.W PyProof.Rows
set_option Elab.async false
set_option autoImplicit false
set_option linter.unusedVariables false
set_option maxRecDepth 100000
namespace Mine
theorem sl_mid {l : List Nat} {a b : Nat} (hab : a ≤ b) (hb : b ≤ l.length) : Txt.slice (S l) (some (a : Int)) (some (b : Int)) = S ((l.drop a).take (b - a)) :=
  PySem.StrLaws.sliceText_nat (S l) hab (by rw [S_len]; exact hb)
theorem sl_to {l : List Nat} {n : Nat} (h : n ≤ l.length) : Txt.slice (S l) none (some (n : Int)) = S (l.take n) := by
  have := PySem.StrLaws.sliceText_to (x := S l) (j := (n : Int)) ⟨by omega, by simpa using h⟩
  refine Eq.trans this ?_
  simp
theorem sl_from {l : List Nat} {n : Nat} (h : n ≤ l.length) : Txt.slice (S l) (some (n : Int)) none = S (l.drop n) := by
  have := PySem.StrLaws.sliceText_from (x := S l) (i := (n : Int)) ⟨by omega, by simpa using h⟩
  refine Eq.trans this ?_
  have e : ((l.length : Int) - (n : Int)).toNat = l.length - n := by omega
  simp only [Int.toNat_natCast, e]
  rw [List.take_of_length_le (by simp)]
theorem sl_last {l : List Nat} (h : l ≠ []) : Txt.slice (S l) (some (-1)) none = S (l.drop (l.length - 1)) := by
  have hl : 1 ≤ l.length := by cases l with | nil => exact absurd rfl h | cons => simp
  have := PySem.StrLaws.sliceText_from_neg (x := S l) (i := -1) (by omega) (by rw [S_len]; omega)
  refine Eq.trans this ?_
  have e1 : (-1 + ((S l).length : Int)).toNat = l.length - 1 := by rw [S_len]; omega
  have e2 : ((l.length : Int) - (-1 + ((S l).length : Int))).toNat = 1 := by rw [S_len]; omega
  simp only [e1, e2]
  rw [List.take_of_length_le (by simp; omega)]
theorem sl_last0 : Txt.slice (S []) (some (-1)) none = S [] := by decide +kernel
/-! names and places -/
noncomputable def alpha : List Nat := [97, 98, 99, 32, 61, 233, 95, 9, 0]
structure GoodName (l : List Nat) : Prop where
  ne : l ≠ []
  chars : ∀ ch ∈ l, ch ∈ alpha
  last : ∀ ch, l.getLast? = some ch → ch ≠ 32 ∧ ch ≠ 9
  len : l.length ≤ 9
structure GoodPlace (ps : List (List Nat)) : Prop where
  one : 1 ≤ ps.length
  three : ps.length ≤ 3
  names : ∀ p ∈ ps, GoodName p
noncomputable def SLs (h : Heap) : List Addr → List (List (List Nat)) → Prop
  | [], [] => True
  | r :: rs, p :: ps => SL h r (p.map S) ∧ SLs h rs ps
  | _, _ => False
theorem SLs.ext {h h' : Heap} (e : Ext h h') : ∀ {rs : List Addr} {ps : List (List (List Nat))}, SLs h rs ps → SLs h' rs ps
  | [], [], _ => trivial
  | _ :: _, _ :: _, ⟨a, b⟩ => ⟨a.ext e, b.ext e⟩
theorem SLs.len {h : Heap} : ∀ {rs : List Addr} {ps : List (List (List Nat))}, SLs h rs ps → rs.length = ps.length
  | [], [], _ => rfl
  | _ :: _, _ :: _, ⟨_, b⟩ => by simp [b.len]
theorem SLs.get {h : Heap} : ∀ {rs : List Addr} {ps : List (List (List Nat))}, SLs h rs ps → ∀ (i : Nat) (r : Addr) (p : List (List Nat)), rs[i]? = some r → ps[i]? = some p → SL h r (p.map S)
  | r :: _, p :: _, ⟨a, b⟩, 0, _, _, h1, h2 => by cases h1; cases h2; exact a
  | r :: _, p :: _, ⟨a, b⟩, i + 1, _, _, h1, h2 => b.get i _ _ h1 h2
theorem SLs.snoc {h : Heap} {r : Addr} {p : List (List Nat)} (hr : SL h r (p.map S)) : ∀ {rs : List Addr} {ps : List (List (List Nat))}, SLs h rs ps → SLs h (rs ++ [r]) (ps ++ [p])
  | [], [], _ => ⟨hr, trivial⟩
  | _ :: _, _ :: _, ⟨a, b⟩ => ⟨a, b.snoc hr⟩
noncomputable def PL (h : Heap) (a : Addr) (pss : List (List (List Nat))) : Prop := ∃ rs : List Addr, Ls h a (rs.map .ref) ∧ SLs h rs pss
section
variable {c : Cx} {B : Heap} {m : Lo} {own : Ow}
theorem IV.neg {e : Expr} {pos : Pos} {x : Int} (h : IV c B m own e x) : IV c B m own (.UnaryOp .USub e pos) (-x) :=
  ⟨fun B' b => ⟨fun s Q E F q => by
    with_reducible refine wpAny_UnaryOp ((h.run B' b).run s _ E F fun v s1 B1 b1 F1 r1 => ?_)
    obtain ⟨t, rfl⟩ := r1
    with_reducible refine wpAny_with_toks F1.tk (P.neg_int fun hk => ?_)
    exact q _ _ B1 b1 (F1.still rfl rfl rfl hk) ⟨_, rfl⟩⟩⟩
theorem gv_neg_own {value slice : Expr} {a : Addr} {vs : List Value} {k : Int} {u : Tok} {v : Value} {ops : List Value} (ha : (a, isL vs) ∈ own) (h0 : k < 0) (h1 : -(vs.length : Int) ≤ k) (hk : -(2 ^ 63) ≤ k) (hv : vs[(k + vs.length).toNat]? = some v)
    (hs : subscripted slice false (.ref a) (.int k u) = operate ops (getItem (.ref a) (.int k u))) : GV c B m own (subscriptTail value slice (.ref a) (.int k u)) fun _ r => r = v :=
  GV.still fun s Q E F q => by
    have hl : Ls s.heap a vs := F.ow _ ha
    with_reducible exact tail_any hl.list.typeIs slot_list_getitem.lookup (wpAny_getItem_list_neg hl.list h0 (by simpa using h1) hk (by simpa using hv) (q v s.toks s.drawn rfl)) hs
theorem gv_ifdiv {x y : Int} {t u : Tok} (hy : y ≠ 0) (hd : c.A.depth + Builtin.pylongFrames < recursionLimit) {l : List Env} (hfr : c.A.frames = some (c.env :: l)) (hgen : c.env.scope.isGenerator = false) (hco : c.env.scope.isCoroutine = false) (hb : c.env.builtins = builtinsNs) (hg : c.env.globals = mainGlobals) : GV c B m own (inplaceOp .FloorDiv (.int x t) (.int y u)) fun _ v => ∃ t, v = .int (x.fdiv y) t :=
  GV.still fun s Q E F q => by
    exact PyProof.Rows.ifloordiv_int hy (q _ _ s.drawn ⟨_, rfl⟩) (.inr (PySem.PylongRoom.of (F.gl.lim.keeps F.frz) hd (PySem.SeerAt.of (F.gl.seer.keeps F.frz) rfl hfr hgen hco hb hg)))
theorem TV.inS3 {l : Expr} {x a b d : Str} {p1 p2 p3 tp pos : Pos} {k k1 k2 k3 : Nat} (hl : SV c B m own l x) : TV c B m own (.Compare l [.In] [.Tuple [.Constant (.str a) k1 p1, .Constant (.str b) k2 p2, .Constant (.str d) k3 p3] k tp] pos) (a == x || (b == x || d == x)) :=
  TV.cmp hl (fun B1 v b1 ⟨t, ea⟩ => (EV.tuple (R := fun _ vs => ∃ t1 t2 t3, vs = [.str a t1, .str b t2, .str d t3]) (AV.cons SV.lit (fun B2 v b2 ⟨t1, e1⟩ => AV.cons SV.lit (fun B3 u b3 ⟨t2, e2⟩ => AV.cons SV.lit (fun B4 z b4 ⟨t3, e3⟩ => AV.nil fun B5 b5 => ⟨t1, t2, t3, by rw [e1, e2, e3]⟩) fun _ => rfl) fun _ => rfl) fun _ => rfl)
    (by rintro _ _ ⟨_, _, _, rfl⟩; show 3 ≤ sizeLine; decide) fun _ _ _ _ e => e).mono fun B2 v b2 r => by
      obtain ⟨tu, vs, rfl, ha, ht, t1, t2, t3, rfl⟩ := r
      subst ea
      refine GV.still fun s Q E F q => ?_
      have hT : IsTup s.heap tu [.str a t1, .str b t2, .str d t3].toArray := ⟨_, F.frz _ _ ht, rfl, 0, rfl⟩
      with_reducible refine in_tuple_strs (ys := [a, b, d]) hT (.cons _ t1 (.cons _ t2 (.cons _ t3 .nil))) ?_
      exact q _ s.toks s.drawn (by simp)) rfl
end
end Mine

end
section
open PySem PySem.W PyProof.Rows
set_option Elab.async false
set_option autoImplicit false
set_option linter.unusedVariables false
set_option maxRecDepth 100000
namespace Mine
noncomputable def IL (h : Heap) (a : Addr) (xs : List Int) : Prop := ∃ l : List (Int × Tok), Ls h a (l.map fun p => .int p.1 p.2) ∧ l.map (·.1) = xs
theorem IL.ext {h h' : Heap} {a : Addr} {xs : List Int} (x : IL h a xs) (e : Ext h h') : IL h' a xs := let ⟨l, hl, r⟩ := x; ⟨l, hl.ext e, r⟩
section
variable {c : Cx} {B : Heap} {m : Lo} {own : Ow}
noncomputable abbrev AS (c : Cx) (B : Heap) (m : Lo) (own : Ow) (pos : Pos) (es : List Expr) (xs : List Str) : Prop := AV c B m own pos es fun _ vs => ∃ l : List (Str × Tok), vs = strValues l ∧ l.map (·.1) = xs
theorem AS.nil {pos : Pos} : AS c B m own pos [] [] := AV.nil fun _ _ => ⟨[], rfl, rfl⟩
theorem AS.cons {pos : Pos} {e : Expr} {es : List Expr} {x : Str} {xs : List Str} (he : SV c B m own e x) (h : AS c B m own pos es xs) (hs : ∀ env, starEach (e :: es) env = (false, eval e env) :: starEach es env) : AS c B m own pos (e :: es) (x :: xs) :=
  AV.cons he (fun B1 v b1 ⟨t, ev⟩ => ⟨fun B' b => ((h.bs b1).run B' b).mono fun B2 vs b2 ⟨l, e1, e2⟩ => ⟨(x, t) :: l, by rw [ev, e1]; rfl, by rw [← e2]; rfl⟩⟩) hs
theorem EV.strs {elts : List Expr} {pos : Pos} {xs : List Str} (h : AS c B m own pos elts xs) (hz : xs.length ≤ sizeLine) : EV c B m own (.List elts pos) fun B1 v => ∃ a, v = .ref a ∧ B.get? a = none ∧ SL B1 a xs :=
  (EV.list (R := fun _ vs => ∃ l : List (Str × Tok), vs = strValues l ∧ l.map (·.1) = xs) h (by rintro _ _ ⟨l, rfl, rfl⟩; simpa [strValues] using hz) fun _ _ _ _ e => e).mono fun B1 v b1 ⟨a, vs, ev, ha, hl, l, e1, e2⟩ => ⟨a, ev, ha, l, by rw [← e1]; exact hl, e2⟩
theorem XW.assignOwn {K : Flow → Heap → Lo → Ow → Prop} {rest : List Stmt} {x : Str} {e : Expr} {pos pos' : Pos} (h : EV c B m own e fun B1 v => ∃ a P o, v = .ref a ∧ B.get? a = none ∧ B1.get? a = some o ∧ P o ∧ (c.n ≤ a → Bs c.n B (less B1 a) → XW c (less B1 a) (put m x (.ref a)) ((a, P) :: own) (execs rest c.env) K))
    (hl : c.env.kindOf x = some .local) (hk : c.env.scope.kind = .function) (hs : swapsWith e (some (.Name x pos')) pos.line c.env = pure false) : XW c B m own (execs (.Assign [.Name x pos'] e pos :: rest) c.env) K :=
  XW.cons ⟨fun s Q E F q => by
    with_reducible refine wpAny_Assign_Name ((h.run B (Bs.refl _ _)).run s _ E F fun v s1 B1 b1 F1 r1 => ?_) hs
    obtain ⟨a, P, o, rfl, ha, ho, hP, k⟩ := r1
    have hn : c.n ≤ a := (b1.new a o ho).elim (fun e => by rw [ha] at e; cases e) id
    exact GV.sto (K := fun _ _ => True) hl hk s1 _ E (F1.take b1 ha ho hP) fun s2 F2 => q .next s2 _ _ _ (less_bs b1 ha) F2 (k hn (less_bs b1 ha))⟩
theorem XW.iteJ {K : Flow → Heap → Lo → Ow → Prop} {rest : List Stmt} {test : Expr} {body orelse : List Stmt} {pos : Pos} {x : Bool} (J : Heap → Lo → Ow → Prop) (ht : TV c B m own test x) (h1 : x = true → ∀ B1, Bs c.n B B1 → XW c B1 m own (execs body c.env) fun f B m own => f = .next ∧ J B m own)
    (h2 : x = false → ∀ B1, Bs c.n B B1 → XW c B1 m own (execs orelse c.env) fun f B m own => f = .next ∧ J B m own) (k : ∀ B1 m1 own1, Bs c.n B B1 → J B1 m1 own1 → XW c B1 m1 own1 (execs rest c.env) K) : XW c B m own (execs (.If test body orelse pos :: rest) c.env) K :=
  XW.ite ht (fun hx B1 b1 => (h1 hx B1 b1).mono fun f B2 m2 own2 b2 r => by obtain ⟨rfl, hJ⟩ := r; exact k B2 m2 own2 (b1.trans b2) hJ) fun hx B1 b1 => (h2 hx B1 b1).mono fun f B2 m2 own2 b2 r => by obtain ⟨rfl, hJ⟩ := r; exact k B2 m2 own2 (b1.trans b2) hJ
end
noncomputable def init4 : List (List (List Nat)) := [[[97, 98, 99, 97, 98]], [[97, 98, 99, 97, 98, 99, 97, 98, 99], [98]], [[97, 98, 99], [97, 98, 99]], [[97, 98, 99], [97, 61, 61], [97, 98, 61]]]
noncomputable def goodB (l : List Nat) : Bool := !l.isEmpty && l.all (fun ch => alpha.contains ch) && (l.getLast? != some 32 && l.getLast? != some 9) && decide (l.length ≤ 9)
theorem goodB_of {l : List Nat} (h : goodB l = true) : GoodName l := by
  unfold goodB at h
  simp only [Bool.and_eq_true, Bool.not_eq_true', List.isEmpty_eq_false_iff, List.all_eq_true, List.contains_iff_mem, bne_iff_ne, ne_eq, decide_eq_true_eq] at h
  obtain ⟨⟨⟨h1, h2⟩, h3, h4⟩, h5⟩ := h
  exact ⟨h1, h2, fun ch e => ⟨fun q => h3 (q ▸ e), fun q => h4 (q ▸ e)⟩, h5⟩
theorem init4_good : ∀ ps ∈ init4, GoodPlace ps := by
  have h : ∀ ps ∈ init4, 1 ≤ ps.length ∧ ps.length ≤ 3 ∧ ∀ p ∈ ps, goodB p = true := by decide +kernel
  exact fun ps hp => ⟨(h ps hp).1, (h ps hp).2.1, fun p q => goodB_of ((h ps hp).2.2 p q)⟩
structure NameI (l : List Nat) : Prop where
  chars : ∀ ch ∈ l, ch ∈ alpha
  len : l.length ≤ 6 ∨ GoodName l
theorem fn_places (w : World) : FnK w 201 (fdOf 43 .none lawM (.ref 200)) := ⟨⟨.type "function", none, #[], by kernel_rfl⟩, by kernel_rfl⟩
noncomputable def eight : List (List Nat) := [[97], [98], [32], [61], [233], [95], [9], [0]]
section
variable {c : Cx} {B : Heap} {m : Lo} {own : Ow}
theorem law_places {sc : Addr} {xs : List Int} (room : c.A.depth + 101 < recursionLimit) (hh : c.A.handled = none) {fl : List Env} (hfr : c.A.frames = some fl) (hs : IL B sc xs) (hx : xs.length ≤ 63) :
    GV c B m own (call (.ref 201) [.ref sc]) fun B1 v => ∃ r pss, v = .ref r ∧ B.get? r = none ∧ PL B1 r pss ∧ (∃ tl, pss = init4 ++ tl) ∧ pss.length ≤ 8 ∧ ∀ ps ∈ pss, GoodPlace ps := by
  refine GV.fn (binds := [kv "script" (.ref sc)]) (fn_places c.w) rfl (by omega) (fun s k => BindsTo.of_eq rfl) (by decide +kernel) (locs (by rfl)) rfl rfl rfl fun s => ?_
  have hd : (sub c (fdOf 43 .none lawM (.ref 200)) 201 s).A.depth + Builtin.pylongFrames < recursionLimit := by show c.A.depth + 1 + 100 < recursionLimit; omega
  have hfr' : (sub c (fdOf 43 .none lawM (.ref 200)) 201 s).A.frames = some ((sub c (fdOf 43 .none lawM (.ref 200)) 201 s).env :: fl) := by
    show c.A.frames.map _ = _
    rw [hfr]; rfl
  refine XW.assignOwn ((EV.list (R := fun B vs => ∃ rs : List Addr, vs = rs.map .ref ∧ SLs B rs init4) (AV.cons (EV.strs (AS.cons SV.lit AS.nil fun _ => rfl) (by decide)) (fun B1 v1 b1 r1 => AV.cons (EV.strs (AS.cons SV.lit (AS.cons SV.lit AS.nil fun _ => rfl) fun _ => rfl) (by decide)) (fun B2 v2 b2 r2 =>
    AV.cons (EV.strs (AS.cons SV.lit (AS.cons SV.lit AS.nil fun _ => rfl) fun _ => rfl) (by decide)) (fun B3 v3 b3 r3 => AV.cons (EV.strs (AS.cons SV.lit (AS.cons SV.lit (AS.cons SV.lit AS.nil fun _ => rfl) fun _ => rfl) fun _ => rfl) (by decide)) (fun B4 v4 b4 r4 => AV.nil fun B5 b5 => ?_) fun _ => rfl) fun _ => rfl) fun _ => rfl) fun _ => rfl)
    (by rintro _ _ ⟨rs, rfl, h⟩; rw [List.length_map, h.len]; decide) (by rintro _ _ _ e ⟨rs, h1, h2⟩; exact ⟨rs, h1, h2.ext e⟩)).mono fun B1 v b1 r => ?_) rfl rfl rfl
  · obtain ⟨a1, rfl, _, h1⟩ := r1
    obtain ⟨a2, rfl, _, h2⟩ := r2
    obtain ⟨a3, rfl, _, h3⟩ := r3
    obtain ⟨a4, rfl, _, h4⟩ := r4
    exact ⟨[a1, a2, a3, a4], rfl, h1.ext (b2.trans (b3.trans (b4.trans b5))).ext, h2.ext (b3.trans (b4.trans b5)).ext, h3.ext (b4.trans b5).ext, h4.ext b5.ext, trivial⟩
  obtain ⟨a, vs, rfl, ha, ⟨o, ho, hL⟩, rs0, rfl, hS0⟩ := r
  refine ⟨a, _, o, rfl, ha, ho, hL, fun hna b1' => ?_⟩
  generalize less B1 a = B1 at hS0 b1'
  obtain ⟨il, hil, hil2⟩ := hs
  refine XW.forG ((EV.sliceL (VV.loc rfl rfl rfl) (hil.ext b1'.ext) PV.none (PV.some IV.lit) (ws := (il.take 4).map fun p => .int p.1 p.2) (by have := congrArg List.length hil2; simp at this ⊢; unfold sizeLine; omega) (by rw [show ((4 : Int)) = ((4 : Nat) : Int) from rfl, slicePick_upto']; simp [List.map_take]) fun _ _ => rfl).mono fun B2 v b2 r => ?_) fun _ => rfl
  obtain ⟨sl, rfl, _, hsl⟩ := r
  obtain ⟨J, hJ⟩ : ∃ J : Nat → Heap → Lo → Ow → Prop, J = fun i B m own => m.lookup (Str.ofString "places") = some (.ref a) ∧ ∃ (rs : List Addr) (pss : List (List (List Nat))), own = [(a, isL (rs.map .ref))] ∧ SLs B rs pss ∧ pss.length = i + 4 ∧ (∃ tl, pss = init4 ++ tl) ∧ ∀ ps ∈ pss, GoodPlace ps := ⟨_, rfl⟩
  refine FO.list J hh hsl (fun B3 b3 => by rw [hJ]; exact ⟨rfl, rs0, init4, rfl, hS0.ext (b2.trans b3).ext, rfl, ⟨[], by simp⟩, init4_good⟩) ?_ ?_ rfl rfl
  · intro i v B0 B3 m0 own1 q hv b0 b3 g
    rw [hJ] at g
    obtain ⟨hm, rs, pss, rfl, hS, hlen, hpre, hgood⟩ := g
    rw [List.getElem?_map] at hv
    obtain ⟨⟨x, tx⟩, hp, rfl⟩ := Option.map_eq_some_iff.mp hv
    have hi4 : i < 4 := by have := (List.getElem?_eq_some_iff.mp hp).1; simp at this; omega
    clear hv hp hil hil2 hsl
    dsimp only
    have hm1 : (put m0 (Str.ofString "x") (.int x tx)).lookup (Str.ofString "places") = some (.ref a) := lk_other hm
    have hm2 : (put m0 (Str.ofString "x") (.int x tx)).lookup (Str.ofString "x") = some (.int x tx) := lk_same
    generalize put m0 (Str.ofString "x") (.int x tx) = m1 at hm1 hm2
    have hrl : rs.length = i + 4 := by rw [hS.len, hlen]
    obtain ⟨rb, hrb⟩ : ∃ r, rs[rs.length - 1]? = some r := ⟨_, List.getElem?_eq_getElem (by omega)⟩
    obtain ⟨bf, hbf⟩ : ∃ p, pss[rs.length - 1]? = some p := ⟨_, List.getElem?_eq_getElem (by omega)⟩
    have hSb := (hS.get _ rb bf hrb hbf).ext b3.ext
    have hgb := hgood bf (List.mem_of_getElem? hbf)
    refine XW.assign ((EV.sub (VV.loc hm1 rfl rfl) fun B4 o b4 eo => (IV.neg IV.lit).mono fun B5 v b5 ⟨t5, ev⟩ => by
      subst eo ev
      exact gv_neg_own (v := .ref rb) (.tail _ (.head _)) (by decide) (by simp; omega) (by decide) (by
        have e : (-1 + ((rs.map Value.ref).length : Int)).toNat = rs.length - 1 := by simp; omega
        rw [e]; simp [hrb]) rfl).mono fun B4 v b4 ev => ?_) rfl rfl rfl
    subst ev
    have hSb4 := hSb.ext b4.ext
    have hm3 : (put m1 (Str.ofString "before") (.ref rb)).lookup (Str.ofString "places") = some (.ref a) := lk_other hm1
    have hm4 : (put m1 (Str.ofString "before") (.ref rb)).lookup (Str.ofString "x") = some (.int x tx) := lk_other hm2
    have hm5 : (put m1 (Str.ofString "before") (.ref rb)).lookup (Str.ofString "before") = some (.ref rb) := lk_same
    generalize put m1 (Str.ofString "before") (.ref rb) = m2 at hm3 hm4 hm5
    have absI : ∀ (B4 : Heap) (m3 : Lo) (own3 : Ow) (p1 p2 pos : Pos), m3.lookup (Str.ofString "x") = some (.int x tx) → IV (sub c (fdOf 43 .none lawM (.ref 200)) 201 s) B4 m3 own3 (.Call (.Name (Str.ofString "abs") p1) [.Name (Str.ofString "x") p2] [] pos) x.natAbs := fun B4 m3 own3 p1 p2 pos hm =>
      EV.callB (VV.bl (bl_abs _) rfl rfl rfl rfl) (AV.cons (VV.loc hm rfl rfl) (fun B5 v b5 ev => AV.nil fun B6 b6 => by subst ev; exact gv_abs) fun _ => rfl) (fun _ => rfl) fun _ => rfl
    have divI : ∀ (B4 : Heap) (m3 : Lo) (own3 : Ow) (p1 p2 p3 p4 pos : Pos) (i : Nat) (d : Nat), m3.lookup (Str.ofString "x") = some (.int x tx) → d ≠ 0 → IV (sub c (fdOf 43 .none lawM (.ref 200)) 201 s) B4 m3 own3 (.BinOp (.Call (.Name (Str.ofString "abs") p1) [.Name (Str.ofString "x") p2] [] pos) .FloorDiv (.Constant (.int d) i p3) p4) ((x.natAbs / d : Nat) : Int) := fun B4 m3 own3 p1 p2 p3 p4 pos i d hm hd0 => by
      have e : ((x.natAbs / d : Nat) : Int) = (x.natAbs : Int).fdiv (d : Int) := by rw [Int.fdiv_eq_ediv_of_nonneg _ (by omega)]; rfl
      rw [e]
      exact EV.binop (absI _ _ _ _ _ _ hm) fun B5 v b5 ⟨t5, ea⟩ => IV.lit.mono fun B6 u b6 ⟨t6, eu⟩ => by subst ea eu; exact gv_fdiv (by omega) hd hfr' rfl rfl rfl rfl
    have fm : ∀ (n d : Nat), (n : Int).fmod (d : Int) = ((n % d : Nat) : Int) := fun n d => by rw [Int.fmod_eq_emod_of_nonneg _ (by omega)]; rfl
    refine XW.assign ((IV.mod (absI _ _ _ _ _ _ hm4) IV.lit (by decide)).mono fun B6 v b6 ⟨t6, ev⟩ => ?_) rfl rfl rfl
    rw [show (3 : Int) = ((3 : Nat) : Int) from rfl, fm] at ev
    subst ev
    have hk3 : x.natAbs % 3 < 3 := Nat.mod_lt _ (by decide)
    generalize x.natAbs % 3 = kp at hk3
    refine XW.assign (SV.lit.mono fun B7 v b7 ⟨t7, ev⟩ => ?_) rfl rfl rfl
    subst ev
    have hSb7 := hSb4.ext (b6.trans b7).ext
    have hn1 := lk_other (x := Str.ofString "name") (v := .str (Str.ofString "") t7) (lk_other (x := Str.ofString "keep") (v := .int (kp : Int) t6) hm3)
    have hn2 := lk_other (x := Str.ofString "name") (v := .str (Str.ofString "") t7) (lk_other (x := Str.ofString "keep") (v := .int (kp : Int) t6) hm4)
    have hn3 := lk_other (x := Str.ofString "name") (v := .str (Str.ofString "") t7) (lk_other (x := Str.ofString "keep") (v := .int (kp : Int) t6) hm5)
    have hn4 : (put (put m2 (Str.ofString "keep") (.int (kp : Int) t6)) (Str.ofString "name") (.str (Str.ofString "") t7)).lookup (Str.ofString "keep") = some (.int (kp : Int) t6) := lk_other lk_same
    have hn5 : (put (put m2 (Str.ofString "keep") (.int (kp : Int) t6)) (Str.ofString "name") (.str (Str.ofString "") t7)).lookup (Str.ofString "name") = some (.str (S []) t7) := lk_same
    generalize put (put m2 (Str.ofString "keep") (.int (kp : Int) t6)) (Str.ofString "name") (.str (Str.ofString "") t7) = m3 at hn1 hn2 hn3 hn4 hn5
    have hbl : bf.length ≤ 3 := hgb.three
    obtain ⟨W, hW⟩ : ∃ W : Heap → Lo → Ow → Prop, W = fun B m own => m.lookup (Str.ofString "places") = some (.ref a) ∧ m.lookup (Str.ofString "x") = some (.int x tx) ∧ m.lookup (Str.ofString "before") = some (.ref rb) ∧ m.lookup (Str.ofString "keep") = some (.int (kp : Int) t6) ∧ own = q :: [(a, isL (rs.map .ref))] ∧ ∃ nm t, m.lookup (Str.ofString "name") = some (.str (S nm) t) ∧ NameI nm := ⟨_, rfl⟩
    refine XW.iteJ W
      (TV.and2 (TV.lt (VV.int (VV.loc hn4 rfl rfl)) (IV.lenSL (VV.bl (bl_len _) rfl rfl rfl rfl) (VV.loc hn3 rfl rfl) hSb7 (by simp; omega) fun _ => rfl)) fun _ => TV.eqI (IV.mod (divI _ _ _ _ _ _ _ _ _ 3 hn2 (by decide)) IV.lit (by decide)) IV.lit) (fun hx B8 b8 => ?_) (fun hx B8 b8 => ?_) ?_
    · have hlt : kp < bf.length := by
        have := of_decide_eq_true (Bool.and_eq_true_iff.mp hx).1
        simp at this; omega
      refine XW.assign ((SV.item (x := S bf[kp]) (VV.loc hn3 rfl rfl) (hSb7.ext b8.ext) (VV.int (VV.loc hn4 rfl rfl)) (by omega) (by omega) (by simp [hlt]) fun _ _ => rfl).mono fun B9 v b9 ⟨t9, ev⟩ => ?_) rfl rfl rfl
      subst ev
      have hg := hgb.names _ (List.getElem_mem hlt)
      exact XW.nil ⟨rfl, by rw [hW]; exact ⟨lk_other hn1, lk_other hn2, lk_other hn3, lk_other hn4, rfl, _, t9, lk_same, hg.chars, .inr hg⟩⟩
    · exact XW.nil ⟨rfl, by rw [hW]; exact ⟨hn1, hn2, hn3, hn4, rfl, [], t7, hn5, by simp, .inl (by simp)⟩⟩
    intro B8 m4 own4 b8 g
    rw [hW] at g
    obtain ⟨hn1, hn2, hn3, hn4, rfl, nm0, t8, hn5, hN0⟩ := g
    refine XW.assign ((divI _ _ _ _ _ _ _ _ _ 6 hn2 (by decide)).mono fun B9 v b9 ⟨t9, ev⟩ => ?_) rfl rfl rfl
    subst ev
    obtain ⟨I, hI⟩ : ∃ I : Nat → Heap → Lo → Ow → Prop, I = fun n B m own => m.lookup (Str.ofString "places") = some (.ref a) ∧ m.lookup (Str.ofString "before") = some (.ref rb) ∧ m.lookup (Str.ofString "keep") = some (.int (kp : Int) t6) ∧ own = q :: [(a, isL (rs.map .ref))] ∧ ∃ nm t tr, m.lookup (Str.ofString "name") = some (.str (S nm) t) ∧ m.lookup (Str.ofString "rest") = some (.int (n : Nat) tr) ∧ NameI nm := ⟨_, rfl⟩
    refine XW.while I
      (x.natAbs / 6) (by rw [hI]; exact ⟨lk_other hn1, lk_other hn3, lk_other hn4, rfl, nm0, t8, t9, lk_other hn5, lk_same, hN0⟩) ?_
    intro n B10 m5 own5 b10 g
    rw [hI] at g
    obtain ⟨hn1, hn3, hn4, rfl, nm, tn, tr, hn5, hn6, hN⟩ := g
    have hnl : nm.length ≤ 9 := hN.len.elim (fun h => by omega) fun h => h.len
    refine ⟨_, TV.and2 (TV.gt (VV.int (VV.loc hn6 rfl rfl)) IV.lit) fun _ => TV.lt (IV.lenS (VV.bl (bl_len _) rfl rfl rfl rfl) (VV.str (VV.loc hn5 rfl rfl)) (by rw [S_len]; omega) fun _ => rfl) IV.lit, fun hx B11 b11 => ?_, fun hx B11 b11 => ?_⟩
    · obtain ⟨hx1, hx2⟩ := Bool.and_eq_true_iff.mp hx
      have hx1 := of_decide_eq_true hx1
      have hx2 := of_decide_eq_true hx2
      rw [S_len] at hx2
      have hn8 : n % 8 < 8 := Nat.mod_lt _ (by decide)
      obtain ⟨e8, he8⟩ : ∃ z, eight[n % 8]? = some z := ⟨_, List.getElem?_eq_getElem hn8⟩
      have he8' : e8.length = 1 ∧ ∀ ch ∈ e8, ch ∈ alpha := (by decide +kernel : ∀ z ∈ eight, z.length = 1 ∧ ∀ ch ∈ z, ch ∈ alpha) e8 (List.mem_of_getElem? he8)
      have chrI : ∀ (B4 : Heap) (m3 : Lo) (own3 : Ow) (p1 p2 pos : Pos) (k : Nat) (i : Nat), i ≤ 1000 → SV (sub c (fdOf 43 .none lawM (.ref 200)) 201 s) B4 m3 own3 (.Call (.Name (Str.ofString "chr") p1) [.Constant (.int i) k p2] [] pos) (S [i]) := fun B4 m3 own3 p1 p2 pos k i hi =>
        EV.callB (VV.bl (bl_chr _) rfl rfl rfl rfl) (AV.cons IV.lit (fun B5 v b5 ⟨t, ev⟩ => AV.nil fun B6 b6 => by subst ev; exact gv_chr (by omega) (by omega)) fun _ => rfl) (fun _ => rfl) fun _ => rfl
      refine XW.aug (R := fun _ v => ∃ t, v = .str (S e8) t) hn5 (EV.sub (EV.strs (xs := eight.map S) (AS.cons SV.lit (AS.cons SV.lit (AS.cons SV.lit (AS.cons SV.lit (AS.cons (chrI _ _ _ _ _ _ _ 233 (by decide)) (AS.cons SV.lit (AS.cons SV.lit (AS.cons (chrI _ _ _ _ _ _ _ 0 (by decide)) AS.nil fun _ => rfl) fun _ => rfl) fun _ => rfl) fun _ => rfl) fun _ => rfl) fun _ => rfl) fun _ => rfl) fun _ => rfl) (by decide))
        fun B12 o b12 r => (IV.mod (VV.int (VV.loc hn6 rfl rfl)) IV.lit (by decide)).mono fun B13 v b13 ⟨t13, ev⟩ => ?_) (fun B12 v b12 ⟨t12, ev⟩ => ?_) rfl rfl
      · obtain ⟨la, rfl, _, l, hl, hle⟩ := r
        rw [show (8 : Int) = ((8 : Nat) : Int) from rfl, fm] at ev
        subst ev
        have : (l.map (·.1))[n % 8]? = some (S e8) := by rw [hle, List.getElem?_map, he8]; rfl
        rw [List.getElem?_map] at this
        obtain ⟨⟨y, ty⟩, hp, rfl⟩ := Option.map_eq_some_iff.mp this
        exact (gv_tail_list (v := .str (S e8) ty) (hl.ext b13.ext) (by omega) (by omega) (by rw [Int.toNat_natCast]; simp [strValues, hp]) rfl).mono fun _ _ _ r => ⟨ty, r⟩
      · subst ev
        refine (gv_iadd_str (by rw [S_len, S_len]; unfold sizeLine; omega)).mono fun B13 v b13 ⟨t13, ev⟩ => ?_
        subst ev
        refine XW.aug (lk_other hn6) IV.lit (fun B14 v b14 ⟨t14, ev⟩ => ?_) rfl rfl
        subst ev
        refine (gv_ifdiv (by decide) hd hfr' rfl rfl rfl rfl).mono fun B15 v b15 ⟨t15, ev⟩ => ?_
        rw [show (n : Int).fdiv 8 = ((n / 8 : Nat) : Int) by rw [Int.fdiv_eq_ediv_of_nonneg _ (by omega)]; rfl] at ev
        subst ev
        refine XW.nil ⟨n / 8, by omega, ?_⟩
        rw [hI]
        refine ⟨lk_other (lk_other hn1), lk_other (lk_other hn3), lk_other (lk_other hn4), rfl, nm ++ e8, t13, t15, ?_, lk_same, ?_, ?_⟩
        · rw [← S_app]; exact lk_other lk_same
        · intro ch hch
          rcases List.mem_append.mp hch with h | h
          · exact hN.chars ch h
          · exact he8'.2 ch h
        · left; simp; omega
    · clear hx
      generalize hlw : nm.drop (nm.length - 1) = lw
      have hsl : Txt.slice (S nm) (some (-1)) none = S lw := by
        by_cases h0 : nm = []
        · subst h0; subst hlw; exact sl_last0
        · rw [sl_last h0, hlw]
      obtain ⟨V, hV⟩ : ∃ V : Heap → Lo → Ow → Prop, V = fun B m own => m.lookup (Str.ofString "places") = some (.ref a) ∧ m.lookup (Str.ofString "before") = some (.ref rb) ∧ m.lookup (Str.ofString "keep") = some (.int (kp : Int) t6) ∧ own = q :: [(a, isL (rs.map .ref))] ∧ ∃ nm t, m.lookup (Str.ofString "name") = some (.str (S nm) t) ∧ GoodName nm := ⟨_, rfl⟩
      refine XW.iteJ V
        (TV.inS3 (x := S lw) (by rw [← hsl]; exact SV.slice (VV.str (VV.loc hn5 rfl rfl)) (PV.some (IV.neg IV.lit)) PV.none (by rw [S_len]; unfold sizeLine; omega) fun _ _ => rfl)) (fun hx B12 b12 => ?_) (fun hx B12 b12 => ?_) ?_
      · refine XW.aug hn5 SV.lit (fun B13 v b13 ⟨t13, ev⟩ => ?_) rfl rfl
        subst ev
        refine (gv_iadd_str (by rw [S_len]; show nm.length + 1 ≤ sizeLine; unfold sizeLine; omega)).mono fun B14 v b14 ⟨t14, ev⟩ => ?_
        subst ev
        refine XW.nil ⟨rfl, ?_⟩
        rw [hV]
        refine ⟨lk_other hn1, lk_other hn3, lk_other hn4, rfl, nm ++ [98], t14, by rw [← S_app]; exact lk_same, ⟨by simp, fun ch hch => ?_, fun ch hch => ?_, ?_⟩⟩
        · rcases List.mem_append.mp hch with h | h
          · exact hN.chars ch h
          · simp at h; subst h; decide
        · simp at hch; subst hch; decide
        · rcases hN.len with h | h
          · simp; omega
          · exfalso
            have hne := h.ne
            have hlast := h.last
            obtain ⟨ini, lst, rfl⟩ : ∃ a b, nm = a ++ [b] := ⟨nm.dropLast, nm.getLast hne, (List.dropLast_concat_getLast hne).symm⟩
            simp at hlw
            subst hlw
            have := hlast lst (by simp)
            simp only [Bool.or_eq_true, beq_iff_eq] at hx
            rcases hx with hx | hx | hx
            · have := S_inj (a := []) hx; cases this
            · have := S_inj (a := [32]) hx; simp at this; omega
            · have := S_inj (a := [9]) hx; simp at this; omega
      · have hne : nm ≠ [] := fun h0 => by
          subst h0; simp at hlw; subst hlw
          simp only [Bool.or_eq_false_iff, beq_eq_false_iff_ne] at hx
          exact hx.1 rfl
        refine XW.nil ⟨rfl, ?_⟩
        rw [hV]
        refine ⟨hn1, hn3, hn4, rfl, nm, tn, hn5, ⟨hne, hN.chars, fun ch hch => ?_, hnl⟩⟩
        obtain ⟨ini, lst, rfl⟩ : ∃ a b, nm = a ++ [b] := ⟨nm.dropLast, nm.getLast hne, (List.dropLast_concat_getLast hne).symm⟩
        simp at hlw hch
        subst hlw hch
        simp only [Bool.or_eq_false_iff, beq_eq_false_iff_ne] at hx
        exact ⟨fun h => hx.2.1 (by rw [h]; rfl), fun h => hx.2.2 (by rw [h]; rfl)⟩
      intro B12 m6 own6 b12 g
      rw [hV] at g
      obtain ⟨hn1, hn3, hn4, rfl, nm, tn, hn5, hgn⟩ := g
      have bb := (b6.trans b7).trans (b8.trans (b9.trans (b10.trans (b11.trans b12))))
      refine XW.exprX (EX.listM (VV.loc hn1 rfl rfl) (.tail _ (.head _)) PySem.F.slot_list_append PySem.F.type_list_append (EX.of (R := fun B own' v => own' = q :: [(a, isL (rs.map .ref))] ∧ ∃ r, v = .ref r ∧ SL B r ((bf.take kp ++ [nm]).map S)) ?_) (fun B13 own13 v b13 r => ?_) (mc_of (fun _ => rfl) rfl rfl) fun _ => rfl) rfl rfl
      · refine EV.binop (EV.sliceSL (ys := (bf.take kp).map S) (VV.loc hn3 rfl rfl) (hSb4.ext bb.ext) PV.none (PV.some (VV.int (VV.loc hn4 rfl rfl))) (by simp; unfold sizeLine; omega) (fun l el => ⟨_, pick_upto, by rw [List.map_take, el, List.map_take]⟩) fun _ _ => rfl) fun B13 v b13 r => ?_
        obtain ⟨r1, rfl, _, l1, hl1, e1⟩ := r
        refine (EV.strs (AS.cons (VV.str (VV.loc hn5 rfl rfl)) AS.nil fun _ => rfl) (by show 1 ≤ sizeLine; decide)).mono fun B14 v b14 r => ?_
        obtain ⟨r2, rfl, _, l2, hl2, e2⟩ := r
        have hz : (l1.map (·.1)).length ≤ 3 := by rw [e1]; simp; omega
        have hz2 : (l2.map (·.1)).length = 1 := by rw [e2]; rfl
        refine (gv_add_list (hl1.ext b14.ext) hl2 (by simp [strValues] at hz hz2 ⊢; unfold sizeLine; omega)).mono fun B15 v b15 r => ⟨rfl, ?_⟩
        obtain ⟨r3, rfl, _, hl3⟩ := r
        exact ⟨r3, rfl, l1 ++ l2, by simpa [strValues] using hl3, by rw [List.map_append, e1, e2, List.map_append]; rfl⟩
      · obtain ⟨rfl, r, rfl, hr⟩ := r
        refine (gx_append (pre := [q]) (post := []) (by simp; unfold sizeLine; omega)).mono fun B14 own' v b14 r => ?_
        obtain ⟨rfl, rfl, rfl⟩ := r
        refine XW.nil ⟨_, rfl, ?_⟩
        rw [hJ]
        refine ⟨hn1, rs ++ [_], pss ++ [bf.take kp ++ [nm]], by simp, SLs.snoc hr (hS.ext (b3.trans (b4.trans (bb.trans b13))).ext), by simp [hlen], hpre.elim fun tl e => ⟨tl ++ [bf.take kp ++ [nm]], by rw [e, List.append_assoc]⟩, fun ps hps => ?_⟩
        rcases List.mem_append.mp hps with h | h
        · exact hgood ps h
        · rw [List.mem_singleton] at h
          subst h
          refine ⟨by simp, by simp; omega, fun p hp => ?_⟩
          rcases List.mem_append.mp hp with h | h
          · exact hgb.names p (List.mem_of_mem_take h)
          · simp at h; subst h; exact hgn
  · intro B3 m1 own1 b3 g
    rw [hJ] at g
    obtain ⟨hm, rs, pss, rfl, hS, hlen, hpre, hgood⟩ := g
    refine XW.give hna fun B4 b4 hfr => ?_
    refine XW.ret ((VV.loc hm rfl rfl).mono fun B5 v b5 ev => ⟨a, pss, ev, ha, ⟨rs, Ls.ext (h := B4) hfr b5.ext, hS.ext (b4.trans b5).ext⟩, hpre, ?_, hgood⟩)
    rw [hlen]; simp; omega
end
end Mine

end
section
open PySem PySem.W PyProof.Rows
set_option Elab.async false
set_option autoImplicit false
set_option linter.unusedVariables false
set_option maxRecDepth 100000
namespace Mine
theorem look_append : typeLookup (.type "list") "append" = pure (some (.builtin "list.append")) := PySem.F.slot_list_append.lookup
theorem slot_get : Slot "method_descriptor" "__get__" "method_descriptor.__get__" :=
  .of (owner := "method_descriptor") (n := "__get__") (by rw [typeLookup_type, builtinLookup_eq_fast]; kernel_rfl) (by decide +kernel) (by decide +kernel) (by decide +kernel)
    (by first | exact .inl (by decide +kernel) | exact .inr (by decide +kernel)) (by rw [isSubtype_type]; kernel_rfl)
theorem entry_get : entryFor table "method_descriptor.__get__" = some Builtin.«method_descriptor.__get__» := entryFor_of_tree (by kernel_rfl)
theorem owner_md : Manifest.owners.lookup (String.ofList ['r', 'o', 't', 'p', 'i', 'r', 'c', 's', 'e', 'd', '_', 'd', 'o', 'h', 't', 'e', 'm'].reverse) = some Manifest.sig_method_descriptor := by kernel_rfl
theorem args_get (a b d : Value) : argsOk "method_descriptor.__get__" ⟨[a, b, d], []⟩ := by
  unfold argsOk; rw [signature?_of (id := "method_descriptor.__get__") (n := ['_', '_', 't', 'e', 'g', '_', '_']) (o := ['r', 'o', 't', 'p', 'i', 'r', 'c', 's', 'e', 'd', '_', 'd', 'o', 'h', 't', 'e', 'm']) (by kernel_rfl) owner_md]; kernel_rfl
theorem no_set : typeLookup (.type "method_descriptor") "__set__" = pure none := by rw [typeLookup_type, builtinLookup_eq_fast]; kernel_rfl
theorem no_delete : typeLookup (.type "method_descriptor") "__delete__" = pure none := by rw [typeLookup_type, builtinLookup_eq_fast]; kernel_rfl
theorem kind_append : builtinKind "list.append" = some .method := by kernel_rfl
theorem kind_type : builtinType "list.append" = pure (.type "method_descriptor") := PySem.F.type_list_append
theorem meets_get (a : Addr) (xs : Array Value) (k : Nat) : Meets (Builtin.«method_descriptor.__get__» ⟨[.builtin "list.append", .ref a, .type "list"], []⟩)
    (fun A R s => s.heap.get? a = some { cls := .type "list", dict := none, data := .seq xs k } ∧ ∀ tk, R (.ok (.ret (.ref s.heap.objs.size))) { s with heap := s.heap.push { cls := .type "builtin_function_or_method", data := .fields #[.builtin "list.append", .ref a] }, toks := tk }) :=
  Meets.of_wp fun prog w A R s hs => by
    obtain ⟨hp, g, d, tk, os⟩ := s
    obtain ⟨hx, hs⟩ := hs
    have hT : (⟨hp, g, d, tk, os⟩ : Shared).TypeIs (.ref a) "list" := ⟨_, hx, rfl⟩
    have f1 : isSubtype (.type "list") (.type "list") = pure true := by rw [isSubtype_type]; kernel_rfl
    unfold Builtin.«method_descriptor.__get__»
    refine wpAny_bind (wpAny_of_eq (a := (Value.builtin "list.append", some (Value.ref a), some (Value.type "list"))) rfl ?_)
    refine wpAny_ite_false (by decide +kernel) ?_
    refine wpAny_bind (m := Bind.bind _ _) (wpAny_bind (wpAny_of_eq (a := (Str.ofString "append", Value.type "list")) (by kernel_rfl) ?_))
    unfold newFields
    repeat (any_goals (first | assumption | wp_step))
    exact ⟨_, rfl, hs tk⟩
theorem code_get {prog : Program} {w : World} {A : Around} {R : Result → Shared → Prop} {s : Shared} {a : Addr} {xs : Array Value} {k : Nat} (hx : s.heap.get? a = some { cls := .type "list", data := .seq xs k })
    (h : ∀ tk, R (.ok (.ret (.ref s.heap.objs.size))) { s with heap := s.heap.push { cls := .type "builtin_function_or_method", data := .fields #[.builtin "list.append", .ref a] }, toks := tk }) :
    codeAny (model prog w) A (.call (.builtin "method_descriptor.__get__") ⟨[.builtin "list.append", .ref a, .type "list"], []⟩) R s :=
  codeAny_call_builtin slot_get.plain entry_get (slot_get.check _ _ _ _ _ _ _ _ kind_type (args_get _ _ _) (meets_get a xs k prog w A R s ⟨hx, h⟩))
theorem meets_append (a : Addr) (xs : Array Value) (k : Nat) (u : Tok) :
    Meets (Builtin.«object.__getattribute__» ⟨[.ref a, .str "append" u], []⟩) (fun A R s => s.heap.get? a = some { cls := .type "list", dict := none, data := .seq xs k } ∧ ∀ tk, R (.ok (.ret (.ref s.heap.objs.size))) { s with heap := s.heap.push { cls := .type "builtin_function_or_method", data := .fields #[.builtin "list.append", .ref a] }, toks := tk }) :=
  Meets.of_wp fun prog w A R s hs => by
    obtain ⟨hp, g, d, tk, os⟩ := s
    obtain ⟨hx, hs⟩ := hs
    have hT : (⟨hp, g, d, tk, os⟩ : Shared).TypeIs (.ref a) "list" := ⟨_, hx, rfl⟩
    have f1 := look_append
    have f2 := slot_get.lookup
    have f3 := no_set
    have f4 := no_delete
    have f5 : specialOf (.builtin "list.append") "__get__" = pure (some (.builtin "method_descriptor.__get__")) := by
      unfold specialOf; show (builtinType "list.append" >>= _) = _; rw [kind_type]; exact slot_get.lookup
    have f6 : Builtin.ObjectAttr.takesStores (.builtin "list.append") = pure false := by
      unfold Builtin.ObjectAttr.takesStores specialOf
      show ((builtinType "list.append" >>= _) >>= _) = _
      rw [kind_type]
      show (typeLookup (.type "method_descriptor") "__set__" >>= _) = _
      rw [no_set]
      show ((builtinType "list.append" >>= _) >>= _) = _
      rw [kind_type]
      show (typeLookup (.type "method_descriptor") "__delete__" >>= _) = _
      rw [no_delete]
      rfl
    have f7 : Builtin.ObjectAttr.find (.ref a) (.type "list") "append" = Builtin.ObjectAttr.ownThenClass (.ref a) "append" (some (.builtin "list.append")) (some (.builtin "method_descriptor.__get__")) := by
      unfold Builtin.ObjectAttr.find
      rw [f1, pure_bind]
      unfold Builtin.ObjectAttr.getOf
      simp only
      rw [f5, pure_bind]
      unfold Builtin.ObjectAttr.dataDescriptor?
      simp only
      rw [f6]
      simp only [pure_bind, Bool.false_eq_true, if_false]
    unfold Builtin.«object.__getattribute__»
    show wpAny _ _ (typeOf (.ref a) >>= _) _ _ _
    refine wpAny_bind (wpAny_typeOf hT ?_)
    rw [f7]
    unfold Builtin.ObjectAttr.ownThenClass Builtin.ObjectAttr.inOwnDict Builtin.ObjectAttr.ownDict Builtin.ObjectAttr.copiedAttributeGuard Builtin.ObjectAttr.byTheClass
    repeat (any_goals (first | assumption | wp_step))
    refine code_get hx fun tk => ?_
    exact wpAny_pure ⟨_, rfl, hs tk⟩
theorem get_append {prog : Program} {w : World} {A : Around} {E : Value → Shared → Prop} {s : Shared} {a : Addr} {xs : Array Value} {k : Nat} {Q : Value → Shared → Prop}
    (hx : s.heap.get? a = some { cls := .type "list", data := .seq xs k }) (h : ∀ tk, Q (.ref s.heap.objs.size) { s with heap := s.heap.push { cls := .type "builtin_function_or_method", data := .fields #[.builtin "list.append", .ref a] }, toks := tk }) :
    wpAny (model prog w) A (getAttr (.ref a) "append" true) Q E s := by
  obtain ⟨hp, g, d, tk, os⟩ := s
  have hT : ∀ tk', (⟨hp, g, d, tk', os⟩ : Shared).TypeIs (.ref a) "list" := fun _ => ⟨_, hx, rfl⟩
  have f3 := F.slot_list_getattribute.lookup
  have f4 := F.slot_list_getattribute.bind (.ref a)
  unfold getAttr getAttrBy
  repeat (any_goals (first | assumption | exact hT _ | ((with_reducible show wpAny _ _ (call (Value.builtin "list.__getattribute__") _ _) _ _ _); refine call_meets F.slot_list_getattribute (hT _) am_entry_list_getattribute (F.args_list_getattribute_2 _ _) (meets_append a xs k _) ⟨hx, fun tk => ?_⟩) | wp_step))
  exact wpAny_pure (h tk)
end Mine

end
section
open PySem PySem.W PyProof.Rows
set_option Elab.async false
set_option autoImplicit false
set_option linter.unusedVariables false
set_option maxRecDepth 100000
namespace Mine
noncomputable abbrev isBA (a : Addr) (o : Obj) : Prop := o = { cls := .type "builtin_function_or_method", data := .fields #[.builtin "list.append", .ref a] }
theorem chk_bound {M : Model} {A : Around} {E : Value → Shared → Prop} {s : Shared} {a : Addr} {xs : Array Value} {k : Nat} {v : Value} {Q : Unit → Shared → Prop} (hx : s.heap.get? a = some { cls := .type "list", data := .seq xs k }) (h : Q () s) : wpAny M A (checkBoundCall "list.append" ⟨[.ref a, v], []⟩) Q E s := by
  have hT : s.TypeIs (.ref a) "list" := ⟨_, hx, rfl⟩
  have f1 : isSubtype (.type "list") (.type "module") = pure false := by rw [isSubtype_type]; kernel_rfl
  have f2 : isSubtype (.type "list") (.type "type") = pure false := by rw [isSubtype_type]; kernel_rfl
  have f3 : Manifest.varargsMethods.contains "list.append" = false := by kernel_rfl
  unfold checkBoundCall
  rw [signature?_of (id := "list.append") (n := ['d', 'n', 'e', 'p', 'p', 'a']) (o := ['t', 's', 'i', 'l']) (by kernel_rfl) F.owner_list, kind_append]
  obtain ⟨hp, g, d, tk, os⟩ := s
  have e : List.lookup (String.ofList ['d', 'n', 'e', 'p', 'p', 'a'].reverse) Manifest.sig_list = some ⟨.oneArg, "list.append", "append", .self, [⟨"object", .posOnly, true⟩]⟩ := by kernel_rfl
  rw [e]
  simp only [f3]
  repeat (any_goals (first | assumption | wp_step))
theorem call_bound {prog : Program} {w : World} {A : Around} {E : Value → Shared → Prop} {s : Shared} {a b : Addr} {vs : Array Value} {k : Nat} {v : Value} {Q : Value → Shared → Prop} (hb : s.heap.get? b = some { cls := .type "builtin_function_or_method", data := .fields #[.builtin "list.append", .ref a] })
    (hx : s.heap.get? a = some { cls := .type "list", data := .seq vs k }) (hz : vs.size ≤ sizeLine) (h : Q .none { s with heap := s.heap.update a (Obj.mapSeq (·.push v)) }) : wpAny (model prog w) A (call (.ref b) [v]) Q E s := by
  refine wpAny_call (codeAny_of_tree ?_)
  show wpAny _ A.in1 (callAny (.ref b) ⟨[v], []⟩) _ _ s
  unfold callAny
  refine wpAny_bind (wpAny_load hb ?_)
  show wpAny _ _ (do checkBoundCall "list.append" ⟨[.ref a, v], []⟩; again (.builtin "list.append" ⟨[.ref a, v], []⟩)) _ _ _
  refine wpAny_bind (chk_bound hx ?_)
  refine wpAny_pure ⟨plainId_quiet F.slot_list_append.plain _, codeAny_builtin F.entry_list_append ?_⟩
  rw [Around.under_plainId F.slot_list_append.plain]
  exact PySem.list_append a vs k v hz prog w A (wants Q E) s ⟨hx, h⟩
section
variable {c : Cx} {B : Heap} {m : Lo} {own : Ow}
theorem keeper_bound {M : Model} {A : Around} {E : Value → Shared → Prop} {s : Shared} {a b : Addr} {Q : Keeper → Shared → Prop} (hb : s.heap.get? b = some { cls := .type "builtin_function_or_method", data := .fields #[.builtin "list.append", .ref a] }) (h : Q .machine s) : wpAny M A (keeperOf (.ref b)) Q E s := by
  unfold keeperOf
  refine wpAny_bind (wpAny_load hb ?_)
  exact wpAny_pure h
theorem callWith_bound {M : Model} {A : Around} {E : Value → Shared → Prop} {s : Shared} {pos : Pos} {b : Addr} {args : List (Bool × Sem Value)} {Q : Value → Shared → Prop} (hplain : args.any (·.1) = false)
    (h : wpAny M A (evalArgs (.ref b) true args []) (fun x s₁ => (∃ a, s₁.heap.get? b = some { cls := .type "builtin_function_or_method", data := .fields #[.builtin "list.append", .ref a] }) ∧ wpAny M A (call (.ref b) x.pos x.kw) Q E s₁) E s) :
    wpAny M A (callWith pos (.ref b) [] args []) Q E s := by
  unfold callWith
  refine wpAny_bind (wpAny_holding (wpAny_mono h (fun x s₁ h₁ => wpAny_bind (wpAny_standAt ?_)) fun _ _ x => x))
  obtain ⟨⟨a, hb⟩, h₁⟩ := h₁
  simp only [hplain, List.any_nil, Bool.or_false]
  refine wpAny_bind (keeper_bound hb ?_)
  exact wpAny_bind (wpAny_mono h₁ (fun r s₂ hr => wpAny_bind (wpAny_holding (wpAny_point (wpAny_pure hr)))) fun _ _ x => x)
/-- append bound to an own list, called with one argument -/
theorem EX.bound {x : Str} {p pos : Pos} {e : Expr} {a b : Addr} {R1 : Heap → Value → Prop} {pre post : Ow} {vs : List Value} (hx : VV c B m (pre ++ (a, isL vs) :: post) (.Name x p) (.ref b)) (hb : ∃ o, B.get? b = some o ∧ isBA a o) (hz : vs.length ≤ sizeLine)
    (he : EV c B m (pre ++ (a, isL vs) :: post) e R1) (hs : ∀ env, starEach [e] env = (false, eval e env) :: starEach [] env) : EX c B m (pre ++ (a, isL vs) :: post) (.Call (.Name x p) [e] [] pos) fun B' own' _ => ∃ v, R1 B' v ∧ own' = pre ++ (a, isL (vs ++ [v])) :: post :=
  ⟨fun B' b' => ⟨fun s Q E F q => by
    obtain ⟨ob, hob, rfl⟩ := hb
    with_reducible refine Call_ ((hx.run B' b').run s _ E F fun v s1 B1 b1 F1 r1 => ?_) rfl
    subst r1
    have hp : (backTo pos (starEach [e] c.env)).any (·.1) = false := by rw [hs]; rfl
    refine callWith_bound hp ?_
    have key : wpAny (Md c.w) c.A (spliced (backTo pos (starEach [e] c.env))) (fun vs s' => (∃ a, s'.heap.get? b = some { cls := .type "builtin_function_or_method", data := .fields #[.builtin "list.append", .ref a] }) ∧ wpAny (Md c.w) c.A (call (.ref b) vs []) Q E s') E s1 := by
      with_reducible refine args_cons ((he.run B1 (b'.trans b1)).run s1 _ E F1 fun v s2 B2 b2 F2 r2 => args_nil ?_) (hs _)
      have hb2 := F2.frz _ _ (b2.ext _ _ (b1.ext _ _ (b'.ext _ _ hob)))
      obtain ⟨o, ho, n, rfl⟩ := F2.ow _ mem_mid
      exact ⟨⟨a, hb2⟩, call_bound hb2 ho (by simpa using hz) (q _ _ B2 _ (b1.trans b2) (F2.mapL (by simp)) ⟨v, r2, rfl⟩)⟩
    rw [hs] at key ⊢
    exact Calls.evalArgs_plain key⟩⟩
/-- the bound append -/
theorem EV.boundAppend {x : Str} {p pos : Pos} {a : Addr} {vs : List Value} (hx : VV c B m own (.Name x p) (.ref a)) (ha : (a, isL vs) ∈ own) (he : ∀ env, eval (.Attribute (.Name x p) "append" pos) env = (do
      let o ← eval (.Name x p) env
      standAt pos.atName
      let r ← holding [o] (getAttr o "append" true)
      letTemporaryGo (.Name x p) o r
      pure r)) : EV c B m own (.Attribute (.Name x p) "append" pos) fun B1 v => ∃ b o, v = .ref b ∧ B.get? b = none ∧ B1.get? b = some o ∧ isBA a o :=
  ⟨fun B' b' => ⟨fun s Q E F q => by
    with_reducible refine Attribute_any_ ((hx.run B' b').run s _ E F fun v s1 B1 b1 F1 r1 => ?_) (he _)
    subst r1
    obtain ⟨o, ho, n, rfl⟩ := F1.ow _ ha
    with_reducible refine wpAny_with_toks F1.tk (get_append ho fun tk ht => ?_)
    have g : Grow s1 { s1 with heap := s1.heap.push { cls := .type "builtin_function_or_method", data := .fields #[.builtin "list.append", .ref a] }, toks := tk } := ⟨fun b o e => Heap.get?_push_of_some _ e, by simp, rfl, rfl⟩
    obtain ⟨b2, F2⟩ := F1.grow g ht
    exact q _ _ _ (b1.trans (b2.low F1.size)) F2 ⟨_, _, rfl, bs_none (b'.trans b1) F1.fresh, grown_new (Heap.get?_push_size _ rfl) (Nat.le_refl _), rfl⟩⟩⟩
end
end Mine

end
section
open PySem PySem.W PyProof.Rows
set_option Elab.async false
set_option autoImplicit false
set_option linter.unusedVariables false
set_option maxRecDepth 100000
namespace Mine
noncomputable def trOf (ch : Nat) : List Nat := if ch = 10 then [10] else codeOf ch
theorem table_ok (w : World) : (match (KK w).lookup 53 with
    | some ⟨.type "list", none, .seq xs n, sl⟩ => sl.size == 0 && (10 :: alpha).all fun ch => match xs[ch]? with | some (.str x _) => x == S (trOf ch) | _ => false
    | _ => false) = true := by kernel_rfl
theorem table_at {w : World} {h : Heap} (k : (KK w).In h) : ∃ vs, Ls h 53 vs ∧ ∀ ch ∈ 10 :: alpha, ∃ t, vs[ch]? = some (.str (S (trOf ch)) t) := by
  have e := table_ok w
  split at e
  · rename_i xs n sl hl
    rw [Bool.and_eq_true, List.all_eq_true] at e
    obtain ⟨h1, h2⟩ := e
    have hsl : sl = #[] := by simpa using h1
    subst hsl
    refine ⟨xs.toList, ⟨_, k _ _ hl, n, rfl⟩, fun ch hch => ?_⟩
    have := h2 ch hch
    split at this
    · rename_i x t hx
      refine ⟨t, ?_⟩
      rw [← eq_of_beq this]
      simpa using hx
    · cases this
  · cases e
theorem tab_look {prog : Program} {w : World} {A : Around} {E : Value → Shared → Prop} {s : Shared} {a : Addr} {vs : List Value} {ch : Nat} {y : Str} {t : Tok} {Q : Builtin.Str.Mapped → Shared → Prop} (ha : Ls s.heap a vs) (hv : vs[ch]? = some (.str y t)) (hc : ch < 2 ^ 62) (h : ∀ k, Q (.text y) { s with toks := k }) :
    wpAny (model prog w) A (Builtin.Str.tableLookup (.ref a) ch) Q E s := by
  unfold Builtin.Str.tableLookup
  refine wpAny_bind (wpAny_attempt (wpAny_bind (wpAny_mkInt ?_)))
  have hl : Ls ({ s with toks := s.toks + 1 } : Shared).heap a vs := ha
  refine wpAny_getItem_list hl.list (by omega) (by omega) (by simpa using hv) ?_
  exact wpAny_bind (wpAny_of_eq (a := none) rfl (wpAny_bind (wpAny_of_eq (a := some y) rfl (wpAny_pure (h _)))))
theorem lookup_mem {ch : Nat} {an : Option Nat} : ∀ {l : List (Nat × Option Nat)}, l.lookup ch = some an → (ch, an) ∈ l
  | (y, z) :: ps, h => by
    rw [List.lookup_cons] at h
    split at h
    · rename_i e
      cases h
      rw [eq_of_beq e]
      exact .head _
    · exact .tail _ (lookup_mem h)
theorem meets_translate (x : Str) (t : Tok) (a : Addr) (vs : List Value) (f : Nat → List Nat) (h0 : x.length ≠ 0) (hx : ∀ ch ∈ x.cps.toList, ∃ t, vs[ch]? = some (.str (S (f ch)) t)) (hc : ∀ ch ∈ x.cps.toList, ch < 2 ^ 62 ∧ (f ch).length ≤ 3) (hz : x.length ≤ 100000) :
    Meets (Builtin.«str.translate» ⟨[.str x t, .ref a], []⟩) (fun A R s => Ls s.heap a vs ∧ ∀ tk t', R (.ok (.ret (.str (S ((x.cps.toList.map f).flatten)) t'))) { s with toks := tk }) :=
  Meets.of_wp fun prog w A R s hs => by
    obtain ⟨ha, hs⟩ := hs
    unfold Builtin.«str.translate»
    have e0 : (x.length == 0) = false := by simpa using h0
    refine wpAny_bind (m := Builtin.Str.strOneArg "translate" ⟨[.str x t, .ref a], []⟩) (wpAny_of_eq (a := (Value.str x t, x, Value.ref a)) rfl ?_)
    refine wpAny_ite_false (by rw [e0]; rfl) ?_
    have hfl : ∀ l : List Nat, (∀ ch ∈ l, (f ch).length ≤ 3) → (l.map f).flatten.length ≤ 3 * l.length := fun l h => by
      induction l with
      | nil => simp
      | cons y ys ih =>
        have h1 := h y (.head _)
        have h2 := ih fun z hz => h z (.tail _ hz)
        simp only [List.map_cons, List.flatten_cons, List.length_append, List.length_cons]; omega
    obtain ⟨J, hJ⟩ : ∃ J : List Nat → (List Str × Nat × Bool × List (Nat × Option Nat) × Bool) → Shared → Prop, J = fun rest b s' => ∃ done tk, done ++ rest = x.cps.toList ∧ s' = { s with toks := tk } ∧ b.2.2.2.2 = false ∧ b.2.1 = (done.map f).flatten.length ∧ (b.1.reverse.map (·.cps.toList)).flatten = (done.map f).flatten ∧ ∀ p ∈ b.2.2.2.1, ∃ d, p.2 = some d ∧ f p.1 = [d] := ⟨_, rfl⟩
    refine wpAny_bind (forIn_array_ _ J
      _ ?_ ?_ _ _ (by rw [hJ]; exact ⟨[], s.toks, rfl, rfl, rfl, rfl, rfl, fun _ h => absurd h List.not_mem_nil⟩))
    · rintro ch rest ⟨pieces, total, fast, known, ad⟩ s' g
      rw [hJ] at g
      obtain ⟨done, tk, hd, rfl, e1, e2, e3, e4⟩ := g
      dsimp only at e1 e2 e3 e4
      subst e1
      have hmem : ch ∈ x.cps.toList := by rw [← hd]; simp
      obtain ⟨ty, hv⟩ := hx ch hmem
      obtain ⟨hc1, hc2⟩ := hc ch hmem
      have hlen : done.length + rest.length + 1 = x.length := by
        have := congrArg List.length hd
        simp at this
        show _ = x.cps.size
        omega
      have htl : Builtin.Str.tooLong total = false := by
        have := hfl done fun z hz => (hc z (by rw [← hd]; simp [hz])).2
        unfold Builtin.Str.tooLong sizeLine
        simp; omega
      have fin : ∀ (y : List Nat) (fast' : Bool) (known' : List (Nat × Option Nat)) (tk' : Nat), y = f ch → (∀ p ∈ known', ∃ d, p.2 = some d ∧ f p.1 = [d]) → J rest (S y :: pieces, total + y.length, fast', known', false) { s with toks := tk' } := fun y fast' known' tk' hy hk => by
        rw [hJ]
        subst hy
        exact ⟨done ++ [ch], tk', by simpa using hd, rfl, rfl, by simp [e2], by simp [← e3], hk⟩
      refine wpAny_ite_false (by rw [htl]; rfl) ?_
      cases fast with
      | true =>
        refine wpAny_ite_true (by rfl) ?_
        cases hk : known.lookup ch with
        | some an =>
          obtain ⟨d, rfl, hfd⟩ := e4 (ch, an) (lookup_mem hk)
          exact wpAny_pure (fin [d] true known tk hfd.symm e4)
        | none =>
          refine wpAny_bind (tab_look (s := { s with toks := tk }) ha hv hc1 fun k => ?_)
          by_cases h1 : ((S (f ch)).length == 1 && (S (f ch)).cps.all fun x => decide (x < 128)) = true
          · have hl1 : (f ch).length = 1 := by
              rw [Bool.and_eq_true] at h1
              have := eq_of_beq h1.1
              rwa [S_len] at this
            obtain ⟨d, hd1⟩ : ∃ d, f ch = [d] := List.length_eq_one_iff.mp hl1
            simp only [h1, if_true]
            rw [show (S (f ch)).cps[0]? = some d by rw [hd1]; rfl]
            exact wpAny_pure (fin [d] true ((ch, some d) :: known) k hd1.symm fun p hp => by
              rcases List.mem_cons.mp hp with rfl | hp
              · exact ⟨d, rfl, hd1⟩
              · exact e4 p hp)
          · simp only [h1]
            refine wpAny_bind (wpAny_pure ?_)
            refine wpAny_bind (wpAny_rule ?_)
            refine wpAny_ite_false (by rfl) ?_
            refine wpAny_bind (tab_look (s := { s with toks := k }) ha hv hc1 fun k => ?_)
            refine wpAny_pure ?_
            have := fin (f ch) false known k rfl e4
            rw [← S_len] at this
            exact this
      | false =>
        refine wpAny_ite_false (by rfl) ?_
        refine wpAny_ite_false (by rfl) ?_
        refine wpAny_bind (tab_look (s := { s with toks := tk }) ha hv hc1 fun k => ?_)
        refine wpAny_pure ?_
        have := fin (f ch) false known k rfl e4
        rw [← S_len] at this
        exact this
    · rintro ⟨pieces, total, fast, known, ad⟩ s' g
      rw [hJ] at g
      obtain ⟨done, tk, hd, rfl, e1, e2, e3, e4⟩ := g
      dsimp only at e1 e2 e3 e4
      rw [List.append_nil] at hd
      subst hd
      have htl : Builtin.Str.tooLong total = false := by
        have := hfl x.cps.toList fun z hz => (hc z hz).2
        have hxl : x.cps.toList.length = x.length := by simp [Str.length]
        unfold Builtin.Str.tooLong sizeLine
        simp; omega
      refine wpAny_ite_false (by rw [htl]; rfl) ?_
      have hfold : ∀ (l : List Str) (acc : Array Nat), (l.foldl (fun acc p => acc ++ p.cps) acc) = acc ++ (l.map (·.cps.toList)).flatten.toArray := fun l => by
        induction l with
        | nil => intro acc; simp
        | cons y ys ih => intro acc; rw [List.foldl_cons, ih]; apply Array.toList_inj.mp; simp
      rw [hfold, e3]
      simp only [Array.empty_append]
      refine wpAny_bind (wpAny_mkStr (wpAny_pure ⟨_, rfl, hs _ _⟩) ?_)
      have := hfl x.cps.toList fun z hz => (hc z hz).2
      have hxl : x.cps.toList.length = x.length := by simp [Str.length]
      rw [S_len]
      unfold sizeLine; omega
section
variable {c : Cx} {B : Heap} {m : Lo} {own : Ow}
theorem gv_translate {l : List Nat} {t : Tok} (h0 : l ≠ []) (hl : ∀ ch ∈ l, ch ∈ 10 :: alpha) (hz : l.length ≤ 100000) : GV c B m own (call (.builtin "str.translate") [.str (S l) t, .ref 53]) fun _ v => ∃ t, v = .str (S (l.map trOf).flatten) t :=
  GV.still fun s Q E F q => by
    obtain ⟨vs, hvs, hv⟩ := table_at (F.gl.k.keeps F.frz)
    refine call_meets PySem.F.slot_str_translate (typeIs_str _ _ _) PySem.F.entry_str_translate (PySem.F.args_str_translate_2 _ _) (meets_translate (S l) t 53 vs trOf (by rw [S_len]; intro e; exact h0 (List.eq_nil_of_length_eq_zero e)) (fun ch hch => hv ch (hl ch hch)) (fun ch hch => ?_) (by rw [S_len]; exact hz)) ⟨hvs, fun tk t' => q _ tk s.drawn ⟨t', rfl⟩⟩
    exact (by decide +kernel : ∀ ch ∈ 10 :: alpha, ch < 2 ^ 62 ∧ (trOf ch).length ≤ 3) ch (hl ch hch)
end
end Mine

end
section
open PySem PySem.W PyProof.Rows
set_option Elab.async false
set_option autoImplicit false
set_option linter.unusedVariables false
set_option maxRecDepth 100000
namespace Mine
open PySem.StrLaws
/-! lines of a text that was glued by line ends -/
noncomputable def noBr (x : List Nat) : Prop := ∀ ch ∈ x, Unicode.isLineBreak ch = false
noncomputable def spansAt (off : Nat) : List (List Nat) → List (Nat × Nat × Nat)
  | [] => []
  | [x] => [(off, off + x.length, off + x.length)]
  | x :: y :: r => (off, off + x.length, off + x.length + 1) :: spansAt (off + x.length + 1) (y :: r)
theorem ls_still (s : Str) (tl : List Nat) : ∀ (n cur : Nat) (st : LsSt), (∀ i, cur ≤ i → i < cur + n → Unicode.isLineBreak (s.cps.getD i 0) = false) → forIn (m := Id) (List.range' cur n ++ tl) st (lsBody s) = forIn (m := Id) tl st (lsBody s)
  | 0, cur, st, _ => rfl
  | n + 1, cur, st, h => by
    rw [List.range'_succ, List.cons_append, List.forIn_cons]
    have : lsBody s cur st = pure (.yield st) := by
      unfold lsBody
      rw [h cur (Nat.le_refl _) (by omega)]
      simp
    rw [this]
    exact ls_still s tl n (cur + 1) st fun i h1 h2 => h i (by omega) (by omega)
theorem getD_drop {s : Str} {off : Nat} {x r : List Nat} (h : s.cps.toList.drop off = x ++ r) {i : Nat} (h1 : off ≤ i) (h2 : i < off + x.length) : s.cps.getD i 0 ∈ x := by
  have e : s.cps.toList[i]? = x[i - off]? := by
    have : (s.cps.toList.drop off)[i - off]? = s.cps.toList[i]? := by rw [List.getElem?_drop]; congr 1; omega
    rw [← this, h, List.getElem?_append_left (by omega)]
  have hx : x[i - off]? = some x[i - off] := List.getElem?_eq_getElem (by omega)
  rw [hx] at e
  have e2 : s.cps[i]? = some x[i - off] := by simpa using e
  rw [Array.getD_eq_getD_getElem?, e2]
  exact List.getElem_mem _
theorem ls_all (s : Str) : ∀ (ls : List (List Nat)) (off : Nat) (acc : Array (Nat × Nat × Nat)), ls ≠ [] → (∀ x ∈ ls, noBr x) → (∀ x ∈ ls, x ≠ []) → s.cps.toList.drop off = List.intercalate [10] ls → off ≤ s.length →
    lsEnd s (Id.run (forIn (m := Id) (List.range' off (s.length - off)) ((acc, off) : LsSt) (lsBody s))) = acc.toList ++ spansAt off ls
  | [], _, _, h, _, _, _, _ => absurd rfl h
  | [x], off, acc, _, hb, hn, hd, ho => by
    have hd' : s.cps.toList.drop off = x ++ [] := by rw [hd]; simp [List.intercalate]
    have hl : s.length - off = x.length := by
      have := congrArg List.length hd'
      simp at this
      exact this
    rw [← List.append_nil (List.range' off (s.length - off)), ls_still s [] _ off _ fun i h1 h2 => hb x (.head _) _ (getD_drop hd' h1 (by omega))]
    have hx : 0 < x.length := List.length_pos_iff.mpr (hn x (.head _))
    show lsEnd s (acc, off) = _
    unfold lsEnd
    rw [if_pos (by show off < s.length; omega)]
    simp only [Array.toList_push, spansAt]
    have : s.length = off + x.length := by omega
    rw [this]
  | x :: y :: r, off, acc, _, hb, hn, hd, ho => by
    have hi : List.intercalate [10] (x :: y :: r) = x ++ (10 :: List.intercalate [10] (y :: r)) := by simp [List.intercalate, List.intersperse]
    rw [hi] at hd
    have hl : s.length - off = x.length + 1 + (List.intercalate [10] (y :: r)).length := by
      have := congrArg List.length hd
      simp at this
      show s.cps.size - off = _
      omega
    have hsplit : List.range' off (s.length - off) = List.range' off x.length ++ ((off + x.length) :: List.range' (off + x.length + 1) (s.length - (off + x.length + 1))) := by
      have e1 : s.length - off = x.length + ((s.length - (off + x.length + 1)) + 1) := by omega
      rw [e1, ← List.range'_append_1, List.range'_succ]
    have hx10 : s.cps[off + x.length]? = some 10 := by
      have : (s.cps.toList.drop off)[x.length]? = s.cps.toList[off + x.length]? := by rw [List.getElem?_drop]
      rw [hd, List.getElem?_append_right (Nat.le_refl _)] at this
      simpa using this.symm
    have hg : s.cps.getD (off + x.length) 0 = 10 := by rw [Array.getD_eq_getD_getElem?, hx10]; rfl
    have hstep : lsBody s (off + x.length) (acc, off) = pure (.yield (acc.push (off, off + x.length, off + x.length + 1), off + x.length + 1)) := by
      unfold lsBody lsNext
      rw [hg]
      have : Unicode.isLineBreak 10 = true := by decide +kernel
      simp [this]
    rw [hsplit, ls_still s _ _ off _ fun i h1 h2 => hb x (.head _) _ (getD_drop hd h1 h2)]
    show lsEnd s (Id.run (forIn (m := Id) ((off + x.length) :: List.range' (off + x.length + 1) (s.length - (off + x.length + 1))) ((acc, off) : LsSt) (lsBody s))) = _
    rw [List.forIn_cons, hstep]
    show lsEnd s (Id.run (forIn (m := Id) (List.range' (off + x.length + 1) (s.length - (off + x.length + 1))) ((acc.push (off, off + x.length, off + x.length + 1), off + x.length + 1) : LsSt) (lsBody s))) = _
    rw [ls_all s (y :: r) _ _ (by simp) (fun z hz => hb z (.tail _ hz)) (fun z hz => hn z (.tail _ hz)) ?_ (by omega)]
    · simp [spansAt]
    · have : off + x.length + 1 = off + (x.length + 1) := by omega
      rw [this, ← List.drop_drop, hd]
      have h2 : x ++ 10 :: List.intercalate [10] (y :: r) = (x ++ [10]) ++ List.intercalate [10] (y :: r) := by simp
      rw [h2]
      exact List.drop_left' (by simp)
theorem cuts_at : ∀ (ls : List (List Nat)) (off : Nat) (s : Str), s.cps.toList.drop off = List.intercalate [10] ls → ((spansAt off ls).map fun (p : Nat × Nat × Nat) => Builtin.Str.strSub s p.1 p.2.1) = ls.map S
  | [], _, _, _ => rfl
  | [x], off, s, hd => by
    simp only [spansAt, List.map_cons, List.map_nil, List.cons.injEq, and_true]
    refine PySem.Str.ext' (Array.toList_inj.mp ?_)
    show (s.cps.extract off (off + x.length)).toList = x
    rw [Array.toList_extract, List.extract_eq_take_drop, hd]
    simp [List.intercalate]
  | x :: y :: r, off, s, hd => by
    have hi : List.intercalate [10] (x :: y :: r) = x ++ (10 :: List.intercalate [10] (y :: r)) := by simp [List.intercalate, List.intersperse]
    rw [hi] at hd
    simp only [spansAt, List.map_cons, List.cons.injEq]
    refine ⟨PySem.Str.ext' (Array.toList_inj.mp ?_), ?_⟩
    · show (s.cps.extract off (off + x.length)).toList = x
      rw [Array.toList_extract, List.extract_eq_take_drop, hd]
      simp
    · have := cuts_at (y :: r) (off + x.length + 1) s ?_
      · simpa using this
      · have : off + x.length + 1 = off + (x.length + 1) := by omega
        rw [this, ← List.drop_drop, hd]
        have h2 : x ++ 10 :: List.intercalate [10] (y :: r) = (x ++ [10]) ++ List.intercalate [10] (y :: r) := by simp
        rw [h2]
        exact List.drop_left' (by simp)
theorem lines_glued {ls : List (List Nat)} (h0 : ls ≠ []) (hb : ∀ x ∈ ls, noBr x) (hn : ∀ x ∈ ls, x ≠ []) : Txt.lines (S (List.intercalate [10] ls)) = ls.map S := by
  have hs : Builtin.Str.lineSpans (S (List.intercalate [10] ls)) = spansAt 0 ls := by
    rw [ls_eq]
    have := ls_all (S (List.intercalate [10] ls)) ls 0 #[] h0 hb hn rfl (Nat.zero_le _)
    rw [Nat.sub_zero] at this
    rw [this]; rfl
  have hl : linesOf (S (List.intercalate [10] ls)) = ls.map S := by
    unfold linesOf lineCuts
    rw [hs, List.map_map]
    exact cuts_at ls 0 _ rfl
  unfold Txt.lines
  split
  · rename_i h
    rw [← hl]
    unfold linesOf
    rw [eq_of_beq h]
    simp only [List.map_cons, List.map_nil, List.cons.injEq, and_true]
    refine PySem.Str.ext' (Array.toList_inj.mp ?_)
    simp [Builtin.Str.strSub, Str.length]
  · exact hl
end Mine

end
section
open PySem PySem.W PyProof.Rows
set_option Elab.async false
set_option autoImplicit false
set_option linter.unusedVariables false
set_option maxRecDepth 100000
namespace Mine
noncomputable def wfc (c : List Nat) : Prop := (∃ ch, c = [ch] ∧ ch ≠ 61) ∨ ∃ x y, c = [61, x, y] ∧ x ≠ 61 ∧ y ≠ 61
noncomputable def cap (q : Nat) (fl : List Nat) : Nat := if 2 ≤ q ∧ fl[q - 2]? = some 61 then q - 2 else if 1 ≤ q ∧ fl[q - 1]? = some 61 then q - 1 else q
theorem cap_le (q : Nat) (fl : List Nat) : cap q fl ≤ q := by unfold cap; split <;> (try split) <;> omega
theorem cap_one {q ch : Nat} {fl : List Nat} (h : ch ≠ 61) (hq : 1 ≤ q) : cap q (ch :: fl) = cap (q - 1) fl + 1 := by
  obtain ⟨k, rfl⟩ : ∃ k, q = k + 1 := ⟨q - 1, by omega⟩
  unfold cap
  match k with
  | 0 => simp [h]
  | 1 => simp [h]; split <;> simp_all
  | k + 2 =>
    have g1 : (ch :: fl)[k + 2 + 1 - 2]? = fl[k + 2 + 1 - 1 - 2]? := by rw [show k + 2 + 1 - 2 = k + 1 by omega, show k + 2 + 1 - 1 - 2 = k by omega, List.getElem?_cons_succ]
    have g2 : (ch :: fl)[k + 2 + 1 - 1]? = fl[k + 2 + 1 - 1 - 1]? := by rw [show k + 2 + 1 - 1 = k + 1 + 1 by omega, List.getElem?_cons_succ]; rfl
    rw [g1, g2]
    by_cases p1 : fl[k + 2 + 1 - 1 - 2]? = some 61
    · rw [if_pos ⟨by omega, p1⟩, if_pos ⟨by omega, p1⟩]; omega
    · rw [if_neg (fun x => p1 x.2), if_neg (c := 2 ≤ k + 2 + 1 - 1 ∧ _) (fun x => p1 x.2)]
      by_cases p2 : fl[k + 2 + 1 - 1 - 1]? = some 61
      · rw [if_pos ⟨by omega, p2⟩, if_pos ⟨by omega, p2⟩]; omega
      · rw [if_neg (fun x => p2 x.2), if_neg (fun x => p2 x.2)]; omega
theorem cap_three {q x y : Nat} {fl : List Nat} (hx : x ≠ 61) (hy : y ≠ 61) (hq : 3 ≤ q) : cap q (61 :: x :: y :: fl) = cap (q - 3) fl + 3 := by
  obtain ⟨k, rfl⟩ : ∃ k, q = k + 3 := ⟨q - 3, by omega⟩
  unfold cap
  match k with
  | 0 => simp [hx, hy]
  | 1 => simp [hx, hy]; split <;> simp_all
  | k + 2 =>
    have g1 : (61 :: x :: y :: fl)[k + 2 + 3 - 2]? = fl[k + 2 + 3 - 3 - 2]? := by rw [show k + 2 + 3 - 2 = k + 1 + 1 + 1 by omega, show k + 2 + 3 - 3 - 2 = k by omega, List.getElem?_cons_succ, List.getElem?_cons_succ, List.getElem?_cons_succ]
    have g2 : (61 :: x :: y :: fl)[k + 2 + 3 - 1]? = fl[k + 2 + 3 - 3 - 1]? := by rw [show k + 2 + 3 - 1 = k + 1 + 1 + 1 + 1 by omega, show k + 2 + 3 - 3 - 1 = k + 1 by omega, List.getElem?_cons_succ, List.getElem?_cons_succ, List.getElem?_cons_succ]
    rw [g1, g2]
    by_cases p1 : fl[k + 2 + 3 - 3 - 2]? = some 61
    · rw [if_pos ⟨by omega, p1⟩, if_pos ⟨by omega, p1⟩]; omega
    · rw [if_neg (fun x => p1 x.2), if_neg (c := 2 ≤ k + 2 + 3 - 3 ∧ _) (fun x => p1 x.2)]
      by_cases p2 : fl[k + 2 + 3 - 3 - 1]? = some 61
      · rw [if_pos ⟨by omega, p2⟩, if_pos ⟨by omega, p2⟩]; omega
      · rw [if_neg (fun x => p2 x.2), if_neg (fun x => p2 x.2)]; omega
theorem takeRow_cap (w : Nat) : ∀ (cs : List (List Nat)) (r : List Nat) (q : Nat), (∀ c ∈ cs, wfc c) → r.length + q + 1 = w → q < cs.flatten.length → (takeRow w r cs).1 = r ++ cs.flatten.take (cap q cs.flatten)
  | [], r, q, _, _, h => absurd h (Nat.not_lt_zero _)
  | c :: cs, r, q, hc, hq, hl => by
    unfold takeRow
    rcases hc c (.head _) with ⟨ch, rfl, hch⟩ | ⟨x, y, rfl, hx, hy⟩
    · by_cases h0 : q = 0
      · subst h0
        rw [if_neg (by simp; omega)]
        have : cap 0 ([ch] :: cs).flatten = 0 := Nat.le_zero.mp (cap_le _ _)
        rw [this]; simp
      · rw [if_pos (by simp; omega), takeRow_cap w cs (r ++ [ch]) (q - 1) (fun d hd => hc d (.tail _ hd)) (by simp; omega) (by simp only [List.flatten_cons, List.length_append, List.length_cons, List.length_nil] at hl; omega)]
        simp only [List.flatten_cons, List.singleton_append]
        rw [cap_one hch (by omega)]
        simp
    · by_cases h0 : q ≤ 2
      · rw [if_neg (by simp; omega)]
        have : cap q ([61, x, y] :: cs).flatten = 0 := by
          unfold cap
          simp only [List.flatten_cons, List.cons_append]
          match q, h0 with
          | 0, _ => simp
          | 1, _ => simp
          | 2, _ => simp
        rw [this]; simp
      · rw [if_pos (by simp; omega), takeRow_cap w cs (r ++ [61, x, y]) (q - 3) (fun d hd => hc d (.tail _ hd)) (by simp; omega) (by simp only [List.flatten_cons, List.length_append, List.length_cons, List.length_nil] at hl; omega)]
        simp only [List.flatten_cons, List.cons_append, List.nil_append]
        rw [cap_three hx hy (by omega)]
        simp
theorem takeRow_rest (w : Nat) (cs : List (List Nat)) (hc : ∀ c ∈ cs, wfc c) (hw : 4 ≤ w) (hl : w < cs.flatten.length) : (takeRow w [] cs).1 = cs.flatten.take (cap (w - 1) cs.flatten) ∧ (takeRow w [] cs).2.flatten = cs.flatten.drop (cap (w - 1) cs.flatten) := by
  have h1 := takeRow_cap w cs [] (w - 1) hc (by simp; omega) (by omega)
  rw [List.nil_append] at h1
  refine ⟨h1, ?_⟩
  have h2 := takeRow_flat w cs []
  rw [h1, List.nil_append] at h2
  have h3 := List.take_append_drop (cap (w - 1) cs.flatten) cs.flatten
  rw [← h3] at h2
  simpa using List.append_cancel_left (as := cs.flatten.take (cap (w - 1) cs.flatten)) (by simpa using h2)
/-! names as written -/
noncomputable def enc (n : List Nat) : List Nat := (n.map codeOf).flatten
noncomputable def rowsN (w : Nat) (n : List Nat) : List (List Nat) := rowsOf w (n.map codeOf).length (n.map codeOf)
noncomputable def codeChars : List Nat := [97, 98, 99, 32, 61, 95, 9, 51, 68, 69, 57, 48]
theorem code_ok : ∀ ch ∈ alpha, (∀ z ∈ codeOf ch, z ∈ codeChars) ∧ ((special ch = true ∧ ((codeOf ch).drop 1).all (· != 61) = true ∧ (codeOf ch).length = 3 ∧ (codeOf ch).head? = some 61) ∨ (special ch = false ∧ ch ≠ 61)) := by decide +kernel
theorem code_wf {ch : Nat} (h : ch ∈ alpha) : wfc (codeOf ch) := by
  rcases (code_ok ch h).2 with ⟨h1, h2, h3, h4⟩ | ⟨h1, h2⟩
  · right
    unfold codeOf at h2 ⊢
    rw [if_pos h1] at h2 ⊢
    refine ⟨_, _, rfl, ?_⟩
    simpa using h2
  · left
    unfold codeOf
    rw [if_neg (by rw [h1]; decide)]
    exact ⟨ch, rfl, h2⟩
theorem enc_chars {n : List Nat} (h : ∀ ch ∈ n, ch ∈ alpha) : ∀ z ∈ enc n, z ∈ codeChars := by
  intro z hz
  obtain ⟨c, hc, hzc⟩ := List.mem_flatten.mp hz
  obtain ⟨ch, hch, rfl⟩ := List.mem_map.mp hc
  exact (code_ok ch (h ch hch)).1 z hzc
theorem enc_len (n : List Nat) : (enc n).length ≤ 3 * n.length := by
  unfold enc
  induction n with
  | nil => simp
  | cons x xs ih =>
    have := (codeOf_len x).2
    simp only [List.map_cons, List.flatten_cons, List.length_append, List.length_cons]; omega
theorem enc_ne {n : List Nat} (h : n ≠ []) : enc n ≠ [] := by
  cases n with
  | nil => exact absurd rfl h
  | cons x xs =>
    intro e
    have := (codeOf_len x).1
    have h2 := congrArg List.length e
    simp only [enc, List.map_cons, List.flatten_cons, List.length_append, List.length_nil] at h2; omega
theorem enc_last {n : List Nat} (g : GoodName n) : ∃ ini z, enc n = ini ++ [z] ∧ z ∈ codeChars ∧ z ≠ 32 ∧ z ≠ 9 := by
  obtain ⟨ini, lst, rfl⟩ : ∃ a b, n = a ++ [b] := ⟨n.dropLast, n.getLast g.ne, (List.dropLast_concat_getLast g.ne).symm⟩
  have hl := g.last lst (by simp)
  have ha := g.chars lst (by simp)
  have key : ∀ ch ∈ alpha, ch ≠ 32 → ch ≠ 9 → ∃ i z, codeOf ch = i ++ [z] ∧ z ∈ codeChars ∧ z ≠ 32 ∧ z ≠ 9 := by
    intro ch hch h1 h2
    have : (codeOf ch).getLast?.any (fun z => codeChars.contains z && z != 32 && z != 9) = true := (by decide +kernel : ∀ ch ∈ alpha, ch ≠ 32 → ch ≠ 9 → (codeOf ch).getLast?.any (fun z => codeChars.contains z && z != 32 && z != 9) = true) ch hch h1 h2
    obtain ⟨z, hz, h3⟩ := Option.any_eq_true _ _ |>.mp this
    simp only [Bool.and_eq_true, List.contains_iff_mem, bne_iff_ne, ne_eq] at h3
    obtain ⟨i, hi⟩ := List.getLast?_eq_some_iff.mp hz
    exact ⟨i, z, hi, h3.1.1, h3.1.2, h3.2⟩
  obtain ⟨i, z, e, h1, h2, h3⟩ := key lst ha hl.1 hl.2
  exact ⟨enc ini ++ i, z, by simp [enc, e], h1, h2, h3⟩
theorem cc_nobr : ∀ z ∈ codeChars, Unicode.isLineBreak z = false := by decide +kernel
theorem enc_nobr {n : List Nat} (h : ∀ ch ∈ n, ch ∈ alpha) : noBr (enc n) := fun z hz => cc_nobr z (enc_chars h z hz)
theorem tr_flat : ∀ (names : List (List Nat)), (∀ n ∈ names, ∀ ch ∈ n, ch ∈ alpha) → ((List.intercalate [10] names).map trOf).flatten = List.intercalate [10] (names.map enc)
  | [], _ => rfl
  | [x], h => by
    have : (x.map trOf) = x.map codeOf := List.map_congr_left fun ch hch => by
      have : ch ≠ 10 := fun e => by subst e; exact absurd (h x (.head _) 10 hch) (by decide)
      simp [trOf, this]
    simp [List.intercalate, this, enc]
  | x :: y :: r, h => by
    have ih := tr_flat (y :: r) fun n hn => h n (.tail _ hn)
    have e1 : List.intercalate [10] (x :: y :: r) = x ++ (10 :: List.intercalate [10] (y :: r)) := by simp [List.intercalate, List.intersperse]
    have e2 : List.intercalate [10] ((x :: y :: r).map enc) = enc x ++ (10 :: List.intercalate [10] ((y :: r).map enc)) := by simp [List.intercalate, List.intersperse]
    have : (x.map trOf) = x.map codeOf := List.map_congr_left fun ch hch => by
      have : ch ≠ 10 := fun e => by subst e; exact absurd (h x (.head _) 10 hch) (by decide)
      simp [trOf, this]
    rw [e1, e2, List.map_append, List.flatten_append, List.map_cons, List.flatten_cons, ih, this]
    rfl
theorem charAt_nat (l : List Nat) (n : Nat) (h : n < l.length) : Txt.charAt (S l) (n : Int) = l[n]? := by
  unfold Txt.charAt seqIndex?
  have h1 : (S l).length = l.length := S_len l
  have h2 : ¬ ((n : Int) < 0) := by omega
  simp only [h1, h2, if_false]
  rw [if_pos (by simp; omega)]
  simp
theorem charAt_last (l : List Nat) (z : Nat) : Txt.charAt (S (l ++ [z])) (-1) = some z := by
  unfold Txt.charAt seqIndex?
  have h1 : (S (l ++ [z])).length = l.length + 1 := by rw [S_len]; simp
  have h2 : ((-1 : Int) < 0) := by decide
  simp only [h1, h2, if_true]
  rw [if_pos (by simp; omega)]
  have : (-1 + ((l.length + 1 : Nat) : Int)).toNat = l.length := by omega
  rw [this]
  simp
end Mine

end
section
open PySem PySem.W PyProof.Rows
set_option Elab.async false
set_option autoImplicit false
set_option linter.unusedVariables false
set_option maxRecDepth 100000
namespace Mine
noncomputable abbrev qpM : Value := .str "cpy313.email.quoprimime" 1241
theorem strG {w : World} {x y : Str} (h : (match nsIn (KK w) mainGlobals x with | some (some (.str z _)) => z == y | _ => false) = true) : ∃ t, nsIn (KK w) mainGlobals x = some (some (.str y t)) := by
  split at h
  · rename_i z t e
    exact ⟨t, by rw [e, eq_of_beq h]⟩
  · cases h
theorem fn_benc (w : World) : FnK w 64 (fdOf 20 (.ref 57) qpM (.ref 63)) := ⟨⟨.type "function", none, #[], by kernel_rfl⟩, by kernel_rfl⟩
theorem g_bmap (w : World) : nsIn (KK w) mainGlobals "_QUOPRI_BODY_ENCODE_MAP" = some (some (.ref 53)) := by kernel_rfl
theorem g_crlf (w : World) : ∃ t, nsIn (KK w) mainGlobals "CRLF" = some (some (.str (S [13, 10]) t)) := strG (by kernel_rfl)
theorem tup57 (w : World) : ∃ oc od n sl t1 t2, (KK w).lookup 57 = some ⟨oc, od, .seq #[.int 76 t1, .str (S [10]) t2] n, sl⟩ := by
  have h : (match (KK w).lookup 57 with | some ⟨_, _, .seq xs _, _⟩ => (match xs with | ⟨[.int 76 _, .str y _]⟩ => y == S [10] | _ => false) | _ => false) = true := by kernel_rfl
  split at h
  · rename_i oc od xs n sl e
    split at h
    · rename_i t1 y t2
      exact ⟨oc, od, n, sl, t1, t2, by rw [e, eq_of_beq h]⟩
    · cases h
  · cases h
theorem cc_in : ∀ z ∈ codeChars, Txt.contains (S [13, 10]) (S [z]) = false ∧ (z ≠ 32 → z ≠ 9 → Txt.contains (S [32, 9]) (S [z]) = false) := by decide +kernel
noncomputable def encB (w : Nat) (names : List (List Nat)) : List Nat := List.intercalate [47] (names.flatMap (rowsN w))
theorem inter_len (sep : List Nat) (hs : sep.length ≤ 1) : ∀ xs : List (List Nat), (List.intercalate sep xs).length ≤ xs.flatten.length + xs.length
  | [] => by simp [List.intercalate]
  | [x] => by simp [List.intercalate]
  | x :: y :: r => by
    have ih := inter_len sep hs (y :: r)
    have e : List.intercalate sep (x :: y :: r) = x ++ (sep ++ List.intercalate sep (y :: r)) := by simp [List.intercalate]
    rw [e]
    simp only [List.length_append, List.flatten_cons, List.length_cons] at ih ⊢
    omega
theorem flat_len {b : Nat} : ∀ xs : List (List Nat), (∀ x ∈ xs, x.length ≤ b) → xs.flatten.length ≤ b * xs.length
  | [], _ => by simp
  | x :: xs, h => by
    have h1 := h x (.head _)
    have h2 := flat_len xs fun y hy => h y (.tail _ hy)
    simp only [List.flatten_cons, List.length_append, List.length_cons, Nat.mul_add]
    omega
theorem inter_last (sep : List Nat) : ∀ (xs : List (List Nat)), xs ≠ [] → (∀ x ∈ xs, ∃ i z, x = i ++ [z]) → ∃ i z x, x ∈ xs ∧ List.intercalate sep xs = i ++ [z] ∧ ∃ j, x = j ++ [z]
  | [], h, _ => absurd rfl h
  | [x], _, h => by
    obtain ⟨i, z, e⟩ := h x (.head _)
    exact ⟨i, z, x, .head _, by simp [List.intercalate, e], i, e⟩
  | x :: y :: r, _, h => by
    obtain ⟨i, z, u, hu, e, hj⟩ := inter_last sep (y :: r) (by simp) fun v hv => h v (.tail _ hv)
    have e' : List.intercalate sep (x :: y :: r) = x ++ (sep ++ List.intercalate sep (y :: r)) := by simp [List.intercalate]
    exact ⟨x ++ (sep ++ i), z, u, .tail _ hu, by rw [e', e]; simp, hj⟩
theorem inter_mem {sep : List Nat} {z : Nat} : ∀ {xs : List (List Nat)}, z ∈ List.intercalate sep xs → z ∈ sep ∨ ∃ x ∈ xs, z ∈ x
  | [], h => by simp [List.intercalate] at h
  | [x], h => .inr ⟨x, .head _, by simpa [List.intercalate] using h⟩
  | x :: y :: r, h => by
    have e : List.intercalate sep (x :: y :: r) = x ++ (sep ++ List.intercalate sep (y :: r)) := by simp [List.intercalate]
    rw [e] at h
    rcases List.mem_append.mp h with h | h
    · exact .inr ⟨x, .head _, h⟩
    · rcases List.mem_append.mp h with h | h
      · exact .inl h
      · rcases inter_mem h with h | ⟨u, hu, hz⟩
        · exact .inl h
        · exact .inr ⟨u, .tail _ hu, hz⟩
theorem inter_ne {sep : List Nat} {x : List Nat} {xs : List (List Nat)} (h : x ≠ []) : List.intercalate sep (x :: xs) ≠ [] := by
  cases xs with
  | nil => simpa [List.intercalate] using h
  | cons y r =>
    have e : List.intercalate sep (x :: y :: r) = x ++ (sep ++ List.intercalate sep (y :: r)) := by simp [List.intercalate]
    rw [e]
    simp [h]
theorem rowsOf_len (w : Nat) : ∀ (n : Nat) (codes : List (List Nat)), (rowsOf w n codes).length ≤ n + 1
  | 0, _ => by simp [rowsOf]
  | n + 1, codes => by
    unfold rowsOf
    split
    · have := rowsOf_len w n (takeRow w [] codes).2
      simp; omega
    · simp
theorem rowsOf_mem_len (w : Nat) : ∀ (n : Nat) (codes : List (List Nat)), ∀ r ∈ rowsOf w n codes, r.length ≤ codes.flatten.length + 1
  | 0, _, r, h => by simp [rowsOf] at h; subst h; omega
  | n + 1, codes, r, h => by
    have e := congrArg List.length (takeRow_flat w codes [])
    rw [List.nil_append, List.length_append] at e
    unfold rowsOf at h
    split at h
    · rcases List.mem_cons.mp h with rfl | h
      · simp only [List.length_append, List.length_cons, List.length_nil]; omega
      · have := rowsOf_mem_len w n _ r h
        omega
    · simp at h; subst h; omega
/-- one row of body_encode is one row of the law's -/
theorem row_step {w st : Nat} {ln : List Nat} {rest acc : List (List Nat)} {whole : List (List Nat)} (hw : 4 ≤ w) (hc : ∀ c ∈ rest, wfc c ∧ c.length ≤ 3) (hd : ln.drop st = rest.flatten) (hs : st ≤ ln.length) (he : acc ++ rowsOf w rest.length rest = whole) (hf : w < rest.flatten.length) :
    ∃ rest', rest'.length < rest.length ∧ (∀ c ∈ rest', wfc c ∧ c.length ≤ 3) ∧ ln.drop (st + cap (w - 1) rest.flatten) = rest'.flatten ∧ st + cap (w - 1) rest.flatten ≤ ln.length ∧ (acc ++ [rest.flatten.take (cap (w - 1) rest.flatten) ++ [61]]) ++ rowsOf w rest'.length rest' = whole := by
  obtain ⟨h1, h2⟩ := takeRow_rest w rest (fun c h => (hc c h).1) hw hf
  refine ⟨(takeRow w [] rest).2, ?_, fun c h => hc c (takeRow_mem w _ _ c h), ?_, ?_, ?_⟩
  · cases rest with
    | nil => simp at hf
    | cons q qs => exact takeRow_lt w q qs (by have := (hc q (.head _)).2; omega)
  · rw [h2, ← List.drop_drop, hd]
  · have := cap_le (w - 1) rest.flatten
    have e := congrArg List.length hd
    rw [List.length_drop] at e
    omega
  · rw [← he, rowsOf_step w hw rest (fun c h => (hc c h).2) hf, h1]; simp
theorem rows_flat (w : Nat) : ∀ ns : List (List Nat), (∀ n ∈ ns, n.length ≤ 9) → (ns.flatMap (rowsN w)).length ≤ 10 * ns.length := fun ns => by
  induction ns with
  | nil => intro _; simp
  | cons z zs ih =>
    intro h
    have h1 := ih fun y hy => h y (.tail _ hy)
    have h2 := h z (.head _)
    have h3 := rowsOf_len w (z.map codeOf).length (z.map codeOf)
    simp only [List.flatMap_cons, List.length_append, List.length_cons, rowsN] at h1 h3 ⊢
    simp only [List.length_map] at h3 ⊢
    omega
section
variable {c : Cx} {B : Heap} {m : Lo} {own : Ow}
theorem body_enc {names : List (List Nat)} {t u t' : Tok} {w : Nat} (room : c.A.depth + 1 < recursionLimit) (hh : c.A.handled = none) (hg : ∀ n ∈ names, GoodName n) (h3 : names.length ≤ 3) (hw : 4 ≤ w) (hw' : w ≤ 8) :
    GV c B m own (call (.ref 64) [.str (S (List.intercalate [10] names)) t, .int w u, .str (S [47]) t']) fun _ v => ∃ t, v = .str (S (encB w names)) t := by
  refine GV.fn (binds := [kv "body" (.str (S (List.intercalate [10] names)) t), kv "maxlinelen" (.int w u), kv "eol" (.str (S [47]) t')]) (fn_benc c.w) rfl (by omega) (fun s k => let ⟨oc, od, n, sl, t1, t2, e⟩ := tup57 c.w; BindsTo.of_defaults rfl (k _ _ e) rfl rfl rfl) (by decide +kernel) (locs (by rfl)) rfl rfl rfl fun s => ?_
  refine XW.ite (TV.lt (VV.int (VV.loc rfl rfl rfl)) IV.lit) (fun hx => absurd (of_decide_eq_true hx) (by omega)) fun _ B1 b1 => XW.nil ?_
  have hlen9 : ∀ n ∈ names, n.length ≤ 9 := fun n hn => (hg n hn).len
  have hbl : (List.intercalate [10] names).length ≤ 30 := by
    have h1 := inter_len [10] (by decide) names
    have h2 := flat_len names hlen9
    omega
  refine XW.ite (TV.not (TV.truthS (VV.str (VV.loc rfl rfl rfl)) (by rw [S_len]; omega) fun _ => rfl)) (fun hx B2 b2 => ?_) fun hx B2 b2 => XW.nil ?_
  · have hb0 : List.intercalate [10] names = [] := by
      simp only [Bool.not_eq_true', bne_eq_false_iff_eq] at hx
      exact S_inj (b := []) hx
    have hn0 : names = [] := by
      cases names with
      | nil => rfl
      | cons n ns => exact absurd hb0 (inter_ne (hg n (.head _)).ne)
    subst hn0
    exact XW.ret ((VV.loc rfl rfl rfl).mono fun B3 v b3 ev => ⟨t, ev⟩)
  have hb0 : List.intercalate [10] names ≠ [] := fun e => by
    rw [e] at hx
    exact absurd hx (by decide)
  have hn0 : names ≠ [] := fun e => by subst e; exact hb0 rfl
  refine XW.assign ((EV.strM (VV.str (VV.loc rfl rfl rfl)) PySem.F.slot_str_translate PySem.F.type_str_translate (AV.cons (VV.glob (g_bmap _) rfl rfl rfl) (fun B3 v b3 ev => AV.nil fun B4 b4 t => by
    subst ev
    refine gv_translate hb0 (fun ch hch => ?_) (by omega)
    rcases inter_mem hch with h | ⟨x, hx, h⟩
    · simp at h; subst h; exact .head _
    · exact .tail _ ((hg x hx).chars ch h)) fun _ => rfl) (mc_of (fun _ => rfl) rfl rfl) (fun _ => rfl) fun _ => rfl).mono fun B3 v b3 r => ?_) rfl rfl rfl
  obtain ⟨t3, ev⟩ := r
  rw [tr_flat names fun n hn => (hg n hn).chars] at ev
  subst ev
  have hel : ∀ n ∈ names, (enc n).length ≤ 27 := fun n hn => by
    have h1 := enc_len n
    have h2 := hlen9 n hn
    omega
  have hbl2 : (List.intercalate [10] (names.map enc)).length ≤ 84 := by
    have h1 := inter_len [10] (by decide) (names.map enc)
    have h2 := flat_len (b := 27) (names.map enc) fun x hx => by
      obtain ⟨n, hn, rfl⟩ := List.mem_map.mp hx
      exact hel n hn
    simp only [List.length_map] at h1 h2
    omega
  refine XW.assign ((SV.add SV.lit (VV.str (VV.loc rfl rfl rfl)) (by show 1 + 1 ≤ sizeLine; decide)).mono fun B4 v b4 ⟨t4, ev⟩ => ?_) rfl rfl rfl
  subst ev
  refine XW.assign ((IV.sub (VV.int (VV.loc rfl rfl rfl)) IV.lit).mono fun B5 v b5 ⟨t5, ev⟩ => ?_) rfl rfl rfl
  rw [show (w : Int) - 1 = ((w - 1 : Nat) : Int) by omega] at ev
  subst ev
  refine XW.assignNew (P := isL []) (D := fun _ => True) ((EV.list (R := fun _ vs => vs = []) (AV.nil fun _ _ => rfl) (by rintro _ _ rfl; exact Nat.zero_le _) fun _ _ _ _ e => e).mono fun B1 v b1 r => ?_) (fun e B6 hne b6 _ => ?_) rfl rfl rfl
  · obtain ⟨a, vs, rfl, ha, hl, rfl⟩ := r
    exact ⟨a, rfl, ha, hl, trivial⟩
  refine XW.assign ((EV.boundAppend (VV.loc rfl rfl rfl) (.head _) fun _ => rfl).mono fun B7 v b7 r => ?_) rfl rfl rfl
  obtain ⟨ba, bo, rfl, _, hba, hbo⟩ := r
  have hba : ∃ o, B7.get? ba = some o ∧ isBA e o := ⟨bo, hba, hbo⟩
  have extBA : ∀ {B B' : Heap} {n : Nat}, (∃ o, B.get? ba = some o ∧ isBA e o) → Bs n B B' → ∃ o, B'.get? ba = some o ∧ isBA e o := fun ⟨o, h1, h2⟩ b => ⟨o, b.ext _ _ h1, h2⟩
  refine XW.forG ((EV.strM0 (R := fun B1 v => ∃ a, v = .ref a ∧ SL B1 a (Txt.lines (S (List.intercalate [10] (names.map enc))))) (VV.str (VV.loc rfl rfl rfl)) PySem.F.slot_str_splitlines PySem.F.type_str_splitlines (fun B8 t b8 => (gv_splitlines (show (S (List.intercalate [10] (names.map enc))).length + 1 ≤ sizeLine by rw [S_len]; unfold sizeLine; omega)).mono fun B9 v b9 ⟨a, h1, _, h2⟩ => ⟨a, h1, h2⟩) (mc_of (fun _ => rfl) rfl rfl)).mono fun B8 v b8 r => ?_) fun _ => rfl
  obtain ⟨la, rfl, l, hL, hle⟩ := r
  rw [lines_glued (by simpa using hn0) (fun x hx => by obtain ⟨n, hn, rfl⟩ := List.mem_map.mp hx; exact enc_nobr (hg n hn).chars) (fun x hx => by obtain ⟨n, hn, rfl⟩ := List.mem_map.mp hx; exact enc_ne (hg n hn).ne)] at hle
  have hll : l.length = names.length := by have := congrArg List.length hle; simpa using this
  obtain ⟨J, hJ⟩ : ∃ J : Nat → Heap → Lo → Ow → Prop, J = fun i B m own => m.lookup (Str.ofString "body") = some (.str (S (List.intercalate [10] (names.map enc))) t3) ∧ m.lookup (Str.ofString "maxlinelen") = some (.int w u) ∧ m.lookup (Str.ofString "maxlinelen1") = some (.int ((w - 1 : Nat) : Int) t5) ∧ m.lookup (Str.ofString "eol") = some (.str (S [47]) t') ∧ m.lookup (Str.ofString "append") = some (.ref ba) ∧ m.lookup (Str.ofString "encoded_body") = some (.ref e) ∧
      ∃ rs : List (Str × Tok), own = [(e, isL (strValues rs))] ∧ rs.map (·.1) = ((names.take i).flatMap (rowsN w)).map S := ⟨_, rfl⟩
  refine FO.list J hh hL (fun B9 b9 => by rw [hJ]; exact ⟨rfl, rfl, rfl, rfl, rfl, rfl, [], rfl, rfl⟩) ?_ ?_ rfl rfl
  · intro i v B0 B9 m0 own1 q hv b0 b9 g
    rw [hJ] at g
    obtain ⟨g1, g2, g3, g4, g5, g6, rs, rfl, hrs⟩ := g
    have hba9 := extBA hba ((b8.trans b0).trans b9)
    rw [strValues, List.getElem?_map] at hv
    obtain ⟨⟨x, tx⟩, hp, rfl⟩ := Option.map_eq_some_iff.mp hv
    have hxe : (l.map (·.1))[i]? = some x := by rw [List.getElem?_map, hp]; rfl
    rw [hle, List.getElem?_map, List.getElem?_map] at hxe
    obtain ⟨y, hy, rfl⟩ := Option.map_eq_some_iff.mp hxe
    obtain ⟨nm, hnm, rfl⟩ := Option.map_eq_some_iff.mp hy
    have hgn := hg nm (List.mem_of_getElem? hnm)
    have hi3 : i < 3 := by have := (List.getElem?_eq_some_iff.mp hnm).1; omega
    have hrl : rs.length ≤ 30 := by
      have h1 := congrArg List.length hrs
      simp only [List.length_map] at h1
      rw [h1]
      have h2 := rows_flat w (names.take i) fun n hn => hlen9 n (List.mem_of_mem_take hn)
      have h3 : (names.take i).length ≤ 3 := by simp; omega
      omega
    have hen := hel nm (List.mem_of_getElem? hnm)
    obtain ⟨ini, z, hez, hzc, hz32, hz9⟩ := enc_last hgn
    have hnxt : (names.take (i + 1)).flatMap (rowsN w) = (names.take i).flatMap (rowsN w) ++ rowsN w nm := by rw [List.take_add_one, hnm]; simp
    generalize hln : enc nm = ln at hez hen
    clear hv hp hxe hy
    dsimp only
    have k1 := lk_other (x := Str.ofString "line") (v := .str (S ln) tx) g1
    have k2 := lk_other (x := Str.ofString "line") (v := .str (S ln) tx) g2
    have k3 := lk_other (x := Str.ofString "line") (v := .str (S ln) tx) g3
    have k4 := lk_other (x := Str.ofString "line") (v := .str (S ln) tx) g4
    have k5 := lk_other (x := Str.ofString "line") (v := .str (S ln) tx) g5
    have k6 := lk_other (x := Str.ofString "line") (v := .str (S ln) tx) g6
    have k7 : (put m0 (Str.ofString "line") (.str (S ln) tx)).lookup (Str.ofString "line") = some (.str (S ln) tx) := lk_same
    generalize put m0 (Str.ofString "line") (.str (S ln) tx) = m1 at k1 k2 k3 k4 k5 k6 k7
    refine XW.assign (IV.lit.mono fun B10 v b10 ⟨t10, ev⟩ => ?_) rfl rfl rfl
    subst ev
    refine XW.assign ((IV.sub (IV.sub (IV.lenS (VV.bl (bl_len _) rfl rfl rfl rfl) (VV.str (VV.loc (lk_other k7) rfl rfl)) (by rw [S_len]; omega) fun _ => rfl) IV.lit) (VV.int (VV.loc (lk_other k2) rfl rfl))).mono fun B11 v b11 ⟨t11, ev⟩ => ?_) rfl rfl rfl
    rw [S_len] at ev
    subst ev
    obtain ⟨I, hI⟩ : ∃ I : Nat → Heap → Lo → Ow → Prop, I = fun n B m own => m.lookup (Str.ofString "body") = some (.str (S (List.intercalate [10] (names.map enc))) t3) ∧ m.lookup (Str.ofString "maxlinelen") = some (.int w u) ∧ m.lookup (Str.ofString "maxlinelen1") = some (.int ((w - 1 : Nat) : Int) t5) ∧ m.lookup (Str.ofString "eol") = some (.str (S [47]) t') ∧ m.lookup (Str.ofString "append") = some (.ref ba) ∧ m.lookup (Str.ofString "encoded_body") = some (.ref e) ∧ m.lookup (Str.ofString "line") = some (.str (S ln) tx) ∧
        m.lookup (Str.ofString "laststart") = some (.int ((ln.length : Int) - 1 - w) t11) ∧ ∃ (st : Nat) (ts : Tok) (rest acc : List (List Nat)) (rs' : List (Str × Tok)), m.lookup (Str.ofString "start") = some (.int (st : Int) ts) ∧ own = q :: [(e, isL (strValues rs'))] ∧ rs'.map (·.1) = ((names.take i).flatMap (rowsN w) ++ acc).map S ∧ rs'.length = rs.length + acc.length ∧ acc.length + rest.length ≤ 9 ∧ n = rest.length ∧
        (∀ c ∈ rest, wfc c ∧ c.length ≤ 3) ∧ ln.drop st = rest.flatten ∧ st ≤ ln.length ∧ acc ++ rowsOf w rest.length rest = rowsN w nm := ⟨_, rfl⟩
    refine XW.while I (nm.map codeOf).length
      (by rw [hI]; refine ⟨lk_other (lk_other k1), lk_other (lk_other k2), lk_other (lk_other k3), lk_other (lk_other k4), lk_other (lk_other k5), lk_other (lk_other k6), lk_other (lk_other k7), lk_same, 0, t10, nm.map codeOf, [], rs, lk_other lk_same, rfl, by simpa using hrs, by simp, by simpa using hgn.len, rfl, fun d hd => ?_, by rw [← hln]; rfl, Nat.zero_le _, rfl⟩; obtain ⟨ch, hch, rfl⟩ := List.mem_map.mp hd; exact ⟨code_wf (hgn.chars ch hch), (codeOf_len ch).2⟩) ?_
    intro n B12 m2 own2 b12 j
    rw [hI] at j
    obtain ⟨j1, j2, j3, j4, j5, j6, j7, j8, st, ts, rest, acc, rs', j9, rfl, hrs', hrl', hal, rfl, hwf, hdr, hst, hrows⟩ := j
    have hba12 := extBA hba9 ((b10.trans b11).trans b12)
    have hfl : ln.length - st = rest.flatten.length := by rw [← hdr, List.length_drop]
    refine ⟨_, TV.le (VV.int (VV.loc j9 rfl rfl)) (VV.int (VV.loc j8 rfl rfl)), fun hx B13 b13 => ?_, fun hx B13 b13 => ?_⟩
    · have hx := of_decide_eq_true hx
      have hf : w < rest.flatten.length := by omega
      obtain ⟨rest', r1, r2, r3, r4, r5⟩ := row_step hw hwf hdr hst hrows hf
      have hcap := cap_le (w - 1) rest.flatten
      refine XW.assign ((IV.add (VV.int (VV.loc j9 rfl rfl)) (VV.int (VV.loc j3 rfl rfl))).mono fun B14 v b14 ⟨t14, ev⟩ => ?_) rfl rfl rfl
      rw [show (st : Int) + ((w - 1 : Nat) : Int) = ((st + (w - 1) : Nat) : Int) by omega] at ev
      subst ev
      have i1 := lk_other (x := Str.ofString "stop") (v := .int ((st + (w - 1) : Nat) : Int) t14) j1
      have i2 := lk_other (x := Str.ofString "stop") (v := .int ((st + (w - 1) : Nat) : Int) t14) j2
      have i3 := lk_other (x := Str.ofString "stop") (v := .int ((st + (w - 1) : Nat) : Int) t14) j3
      have i4 := lk_other (x := Str.ofString "stop") (v := .int ((st + (w - 1) : Nat) : Int) t14) j4
      have i5 := lk_other (x := Str.ofString "stop") (v := .int ((st + (w - 1) : Nat) : Int) t14) j5
      have i6 := lk_other (x := Str.ofString "stop") (v := .int ((st + (w - 1) : Nat) : Int) t14) j6
      have i7 := lk_other (x := Str.ofString "stop") (v := .int ((st + (w - 1) : Nat) : Int) t14) j7
      have i8 := lk_other (x := Str.ofString "stop") (v := .int ((st + (w - 1) : Nat) : Int) t14) j8
      have i9 := lk_other (x := Str.ofString "stop") (v := .int ((st + (w - 1) : Nat) : Int) t14) j9
      have i10 : (put m2 (Str.ofString "stop") (.int ((st + (w - 1) : Nat) : Int) t14)).lookup (Str.ofString "stop") = some (.int ((st + (w - 1) : Nat) : Int) t14) := lk_same
      generalize put m2 (Str.ofString "stop") (.int ((st + (w - 1) : Nat) : Int) t14) = m3 at i1 i2 i3 i4 i5 i6 i7 i8 i9 i10
      have hba14 := extBA hba12 (b13.trans b14)
      have sub1 : ∀ (B : Heap) (own : Ow) (p1 p2 pos : Pos) (k d : Nat), d ≤ st + (w - 1) → IV (sub c (fdOf 20 (.ref 57) qpM (.ref 63)) 64 s) B m3 own (.BinOp (.Name (Str.ofString "stop") p1) .Sub (.Constant (.int d) k p2) pos) ((st + (w - 1) - d : Nat) : Int) := fun B own p1 p2 pos k d hd => by
        rw [show ((st + (w - 1) - d : Nat) : Int) = ((st + (w - 1) : Nat) : Int) - (d : Int) by omega]
        exact IV.sub (VV.int (VV.loc i10 rfl rfl)) IV.lit
      have atI : ∀ j, j < w → ln[st + j]? = rest.flatten[j]? := fun j hj => by rw [← hdr, List.getElem?_drop]
      obtain ⟨c2, hc2⟩ : ∃ ch, rest.flatten[w - 3]? = some ch := ⟨_, List.getElem?_eq_getElem (by omega)⟩
      obtain ⟨c1, hc1⟩ : ∃ ch, rest.flatten[w - 2]? = some ch := ⟨_, List.getElem?_eq_getElem (by omega)⟩
      have q2 : Txt.charAt (S ln) ((st + (w - 1) - 2 : Nat) : Int) = some c2 := by
        rw [charAt_nat _ _ (by omega), show st + (w - 1) - 2 = st + (w - 3) by omega, atI _ (by omega), hc2]
      have q1 : Txt.charAt (S ln) ((st + (w - 1) - 1 : Nat) : Int) = some c1 := by
        rw [charAt_nat _ _ (by omega), show st + (w - 1) - 1 = st + (w - 2) by omega, atI _ (by omega), hc1]
      have fin : ∀ (R0 : List Stmt) (K0 : Flow → Heap → Lo → Ow → Prop) (B' : Heap) (ts' : Tok) (tr : Tok) (k : Nat), k = cap (w - 1) rest.flatten → (loopK (sub c (fdOf 20 (.ref 57) qpM (.ref 63)) 64 s) R0 K0 rest.length I) .next B' (put m3 (Str.ofString "start") (.int ((st + k : Nat) : Int) ts')) ([q] ++ (e, isL (strValues rs' ++ [.str (S (rest.flatten.take k ++ [61])) tr])) :: []) := fun R0 K0 B' ts' tr k hk => by
        subst hk
        refine ⟨rest'.length, r1, ?_⟩
        rw [hI]
        refine ⟨lk_other i1, lk_other i2, lk_other i3, lk_other i4, lk_other i5, lk_other i6, lk_other i7, lk_other i8, _, ts', rest', _, rs' ++ [(S (rest.flatten.take (cap (w - 1) rest.flatten) ++ [61]), tr)], lk_same, by simp [strValues], ?_, by simp [hrl']; omega, by simp; omega, rfl, r2, r3, r4, r5⟩
        rw [List.map_append, hrs']; simp
      have app : ∀ (B' : Heap) (e1 : Expr) (p pos : Pos) (row : List Nat), Bs (sub c (fdOf 20 (.ref 57) qpM (.ref 63)) 64 s).n B14 B' → SV (sub c (fdOf 20 (.ref 57) qpM (.ref 63)) 64 s) B' m3 (q :: [(e, isL (strValues rs'))]) e1 (S row) → (∀ env, starEach [e1] env = (false, eval e1 env) :: starEach [] env) →
          EX (sub c (fdOf 20 (.ref 57) qpM (.ref 63)) 64 s) B' m3 (q :: [(e, isL (strValues rs'))]) (.Call (.Name (Str.ofString "append") p) [e1] [] pos) fun B'' own' _ => ∃ t, own' = [q] ++ (e, isL (strValues rs' ++ [.str (S row) t])) :: [] := fun B' e1 p pos row b' he1 hs1 => by
        refine (EX.bound (pre := [q]) (post := []) (VV.loc i5 rfl rfl) (extBA hba14 b') (by simp [strValues, hrl']; unfold sizeLine; omega) he1 hs1).mono fun B'' own' v b'' r => ?_
        obtain ⟨v, ⟨t, rfl⟩, rfl⟩ := r
        exact ⟨t, rfl⟩
      refine XW.ite (TV.eqS' (SV.idx (VV.str (VV.loc i7 rfl rfl)) (sub1 _ _ _ _ _ _ 2 (by omega)) (by omega) (by omega) q2 fun _ _ => rfl) SV.lit) (fun hy B15 b15 => ?_) fun hy B15 b15 => ?_
      · have hy : c2 = 61 := by have hy : ([c2] == [61]) = true := hy; simpa using hy
        have hk : w - 3 = cap (w - 1) rest.flatten := by
          unfold cap
          rw [if_pos ⟨by omega, by rw [show w - 1 - 2 = w - 3 by omega, hc2, hy]⟩]; omega
        refine XW.exprX ((app B15 _ _ _ (rest.flatten.take (w - 3) ++ [61]) b15 ?_ fun _ => rfl).mono fun B16 own' v b16 r => ?_) rfl rfl
        · have e1 : rest.flatten.take (w - 3) ++ [61] = (ln.drop st).take (st + (w - 1) - 1 - st) := by
            rw [hdr, show st + (w - 1) - 1 - st = (w - 3) + 1 by omega, List.take_add_one, hc2, hy]; rfl
          rw [e1, ← sl_mid (by omega) (by omega)]
          exact SV.slice (VV.str (VV.loc i7 rfl rfl)) (PV.some (VV.int (VV.loc i9 rfl rfl))) (PV.some (sub1 _ _ _ _ _ _ 1 (by omega))) (by rw [S_len]; unfold sizeLine; omega) fun _ _ => rfl
        · obtain ⟨tr, rfl⟩ := r
          refine XW.assign ((sub1 _ _ _ _ _ _ 2 (by omega)).mono fun B17 v b17 ⟨t17, ev⟩ => ?_) rfl rfl rfl
          rw [show st + (w - 1) - 2 = st + (w - 3) by omega] at ev
          subst ev
          exact XW.nil (XW.nil (fin _ _ _ _ _ _ hk))
      · have hy : c2 ≠ 61 := by have hy : ([c2] == [61]) = false := hy; simpa using hy
        refine XW.ite (TV.eqS' (SV.idx (VV.str (VV.loc i7 rfl rfl)) (sub1 _ _ _ _ _ _ 1 (by omega)) (by omega) (by omega) q1 fun _ _ => rfl) SV.lit) (fun hz B16 b16 => ?_) fun hz B16 b16 => ?_
        · have hz : c1 = 61 := by have hz : ([c1] == [61]) = true := hz; simpa using hz
          have hk : w - 2 = cap (w - 1) rest.flatten := by
            unfold cap
            rw [if_neg (by rw [show w - 1 - 2 = w - 3 by omega, hc2]; simp [hy]), if_pos ⟨by omega, by rw [show w - 1 - 1 = w - 2 by omega, hc1, hz]⟩]; omega
          refine XW.exprX ((app B16 _ _ _ (rest.flatten.take (w - 2) ++ [61]) (b15.trans b16) ?_ fun _ => rfl).mono fun B17 own' v b17 r => ?_) rfl rfl
          · have e1 : rest.flatten.take (w - 2) ++ [61] = (ln.drop st).take (st + (w - 1) - st) := by
              rw [hdr, show st + (w - 1) - st = (w - 2) + 1 by omega, List.take_add_one, hc1, hz]; rfl
            rw [e1, ← sl_mid (by omega) (by omega)]
            exact SV.slice (VV.str (VV.loc i7 rfl rfl)) (PV.some (VV.int (VV.loc i9 rfl rfl))) (PV.some (VV.int (VV.loc i10 rfl rfl))) (by rw [S_len]; unfold sizeLine; omega) fun _ _ => rfl
          · obtain ⟨tr, rfl⟩ := r
            refine XW.assign ((sub1 _ _ _ _ _ _ 1 (by omega)).mono fun B17 v b17 ⟨t17, ev⟩ => ?_) rfl rfl rfl
            rw [show st + (w - 1) - 1 = st + (w - 2) by omega] at ev
            subst ev
            exact XW.nil (XW.nil (XW.nil (fin _ _ _ _ _ _ hk)))
        · have hz : c1 ≠ 61 := by have hz : ([c1] == [61]) = false := hz; simpa using hz
          have hk : w - 1 = cap (w - 1) rest.flatten := by
            unfold cap
            rw [if_neg (by rw [show w - 1 - 2 = w - 3 by omega, hc2]; simp [hy]), if_neg (by rw [show w - 1 - 1 = w - 2 by omega, hc1]; simp [hz])]
          refine XW.exprX ((app B16 _ _ _ (rest.flatten.take (w - 1) ++ [61]) (b15.trans b16) ?_ fun _ => rfl).mono fun B17 own' v b17 r => ?_) rfl rfl
          · rw [← S_app]
            have e1 : rest.flatten.take (w - 1) = (ln.drop st).take (st + (w - 1) - st) := by rw [hdr, show st + (w - 1) - st = w - 1 by omega]
            rw [e1, ← sl_mid (by omega) (by omega)]
            refine SV.add (SV.slice (VV.str (VV.loc i7 rfl rfl)) (PV.some (VV.int (VV.loc i9 rfl rfl))) (PV.some (VV.int (VV.loc i10 rfl rfl))) (by rw [S_len]; unfold sizeLine; omega) fun _ _ => rfl) SV.lit ?_
            rw [sl_mid (by omega) (by omega), S_len]
            show _ + 1 ≤ sizeLine
            simp; unfold sizeLine; omega
          · obtain ⟨tr, rfl⟩ := r
            refine XW.assign ((VV.loc i10 rfl rfl).mono fun B17 v b17 ev => ?_) rfl rfl rfl
            subst ev
            exact XW.nil (XW.nil (XW.nil (fin _ _ _ _ _ _ hk)))
    · have hx := of_decide_eq_false hx
      have hf : ¬ w < rest.flatten.length := by omega
      rw [rowsOf_last w rest hf] at hrows
      refine XW.ite (x := false) ?_ (fun hx => nomatch hx) fun _ B14 b14 => ?_
      · have e0 : false = ((S ln != Str.empty) && Txt.contains (S [32, 9]) (S [z])) := by rw [(cc_in z hzc).2 hz32 hz9]; simp
        rw [e0]
        refine TV.and2 (TV.truthS (VV.str (VV.loc j7 rfl rfl)) (by rw [S_len]; omega) fun _ => rfl) fun _ => TV.inS (SV.idx (VV.str (VV.loc j7 rfl rfl)) (IV.neg IV.lit) (by decide) (by decide) ?_ fun _ _ => rfl) SV.lit rfl
        rw [hez]; exact charAt_last ini z
      · refine XW.exprX ((EX.bound (R1 := fun _ v => ∃ t, v = .str (S rest.flatten) t) (pre := [q]) (post := []) (VV.loc j5 rfl rfl) (extBA hba12 (b13.trans b14)) (by simp [strValues, hrl']; unfold sizeLine; omega) ?_ fun _ => rfl).mono fun B15 own' v b15 r => ?_) rfl rfl
        · rw [← hdr, ← sl_from hst]
          exact SV.slice (VV.str (VV.loc j7 rfl rfl)) (PV.some (VV.int (VV.loc j9 rfl rfl))) PV.none (by rw [S_len]; unfold sizeLine; omega) fun _ _ => rfl
        · obtain ⟨v, ⟨tr, rfl⟩, rfl⟩ := r
          refine XW.nil (XW.nil ⟨_, rfl, ?_⟩)
          rw [hJ]
          refine ⟨j1, j2, j3, j4, j5, j6, rs' ++ [(S rest.flatten, tr)], by simp [strValues], ?_⟩
          rw [hnxt, ← hrows, List.map_append, hrs']; simp
  · intro B9 m1 own1 b9 g
    rw [hJ] at g
    obtain ⟨g1, g2, g3, g4, g5, g6, rs, rfl, hrs⟩ := g
    rw [show (strValues l).length = names.length by simp [strValues, hll], List.take_length] at hrs
    obtain ⟨ini, z, x, hx, hez, hj⟩ := inter_last [10] (names.map enc) (by simpa using hn0) fun x hx => by
      obtain ⟨n, hn, rfl⟩ := List.mem_map.mp hx
      obtain ⟨i, z, e, _⟩ := enc_last (hg n hn)
      exact ⟨i, z, e⟩
    have hzc : z ∈ codeChars := by
      obtain ⟨n, hn, rfl⟩ := List.mem_map.mp hx
      obtain ⟨j, e⟩ := hj
      exact enc_chars (hg n hn).chars z (by rw [e]; simp)
    obtain ⟨tc, hcr⟩ := g_crlf c.w
    refine XW.ite (x := false) ?_ (fun hx => nomatch hx) fun _ B10 b10 => XW.nil ?_
    · rw [← (cc_in z hzc).1]
      refine TV.inS (SV.idx (VV.str (VV.loc g1 rfl rfl)) (IV.neg IV.lit) (by decide) (by decide) ?_ fun _ _ => rfl) (VV.str (VV.glob hcr rfl rfl rfl)) rfl
      rw [hez]; exact charAt_last ini z
    · refine XW.ret ((EV.strM (VV.str (VV.loc g4 rfl rfl)) PySem.F.slot_str_join PySem.F.type_str_join (AV.cons (VV.loc g6 rfl rfl) (fun B11 v b11 ev => AV.nil fun B12 b12 t => by
        subst ev
        refine gv_join_own (.head _) (joinOk_of (b := 28) (fun p hp => ?_) ?_)
        · have : p.1 ∈ (names.flatMap (rowsN w)).map S := by rw [← hrs]; exact List.mem_map_of_mem hp
          obtain ⟨r, hr, e⟩ := List.mem_map.mp this
          obtain ⟨n, hn, hr⟩ := List.mem_flatMap.mp hr
          rw [← e, S_len]
          have h1 := rowsOf_mem_len w _ _ r hr
          have h2 := hel n hn
          have h3 : (n.map codeOf).flatten = enc n := rfl
          rw [h3] at h1
          omega
        · have h1 := congrArg List.length hrs
          simp only [List.length_map] at h1
          have h2 := rows_flat w names hlen9
          rw [S_len]
          show _ * 28 + _ * 1 ≤ _
          omega) fun _ => rfl) (mc_of (fun _ => rfl) rfl rfl) (fun _ => rfl) fun _ => rfl).mono fun B11 v b11 r => ?_)
      obtain ⟨tr, rfl⟩ := r
      refine ⟨tr, ?_⟩
      rw [hrs, txt_join]; rfl
end
end Mine

end
section
open PySem PySem.W PyProof.Rows
set_option Elab.async false
set_option autoImplicit false
set_option linter.unusedVariables false
set_option maxRecDepth 100000
namespace Mine
theorem typeCall2 (a b : Value) : checkTypeCall "int" ⟨[a, b], []⟩ = pure () := by kernel_rfl
theorem newCall2 (a b : Value) : checkBuiltinCall "int.__new__" ⟨[.type "int", a, b], []⟩ = pure () := by kernel_rfl
theorem intNew (h1 h2 : Nat) (n : Int) (hn : (h1, h2, n) ∈ [(51, 68, (61 : Int)), (48, 48, 0), (69, 57, 233)]) (t u : Tok) : Builtin.«int.__new__» ⟨[.type "int", .str (S [h1, h2]) t, .int 16 u], []⟩ = (do
    if !(← isType (.type "int")) then
      rule "int.__new__.no-type"; raiseError "TypeError" s!"int.__new__(X): X is not a type object ({← typeNameOf (.type "int")})"
    if !(← isSubtype (.type "int") (.type "int")) then
      rule "int.__new__.no-subtype"; raiseError "TypeError" s!"int.__new__({← typeName (.type "int")}): {← typeName (.type "int")} is not a subtype of int"
    Bind.madeHere "int.__new__" (.type "int")
    ret (← mkInt n)) := by
  simp only [List.mem_cons, List.not_mem_nil, or_false, Prod.mk.injEq] at hn
  rcases hn with ⟨rfl, rfl, rfl⟩ | ⟨rfl, rfl, rfl⟩ | ⟨rfl, rfl, rfl⟩ <;> kernel_rfl
theorem meets_int16 (h1 h2 : Nat) (n : Int) (hn : (h1, h2, n) ∈ [(51, 68, (61 : Int)), (48, 48, 0), (69, 57, 233)]) (t u : Tok) : Meets (Builtin.«int.__new__» ⟨[.type "int", .str (S [h1, h2]) t, .int 16 u], []⟩) (fun A R s => R (.ok (.ret (.int n s.toks))) { s with toks := s.toks + 1 }) :=
  Meets.of_wp fun prog w A R s hs => by
    rw [intNew h1 h2 n hn]
    refine wpAny_bind (wpAny_of_eq (a := true) rfl ?_)
    refine wpAny_bind (wpAny_of_eq (a := true) PySem.F.conv_sub_int ?_)
    refine wpAny_bind (wpAny_of_eq (a := ()) PySem.F.madeHere_int ?_)
    exact wpAny_bind (wpAny_mkInt (wpAny_pure ⟨_, rfl, hs⟩))
theorem fn_unquote (w : World) : FnK w 44 (fdOf 15 .none qpM (.ref 43)) := ⟨⟨.type "function", none, #[], by kernel_rfl⟩, by kernel_rfl⟩
section
variable {c : Cx} {B : Heap} {m : Lo} {own : Ow}
theorem gv_int16 {h1 h2 : Nat} {n : Int} {t u : Tok} (hn : (h1, h2, n) ∈ [(51, 68, (61 : Int)), (48, 48, 0), (69, 57, 233)]) : GV c B m own (call (.type "int") [.str (S [h1, h2]) t, .int 16 u]) fun _ v => ∃ t, v = .int n t :=
  GV.still fun s Q E F q => callType_new PySem.F.called_int PySem.F.newNe_int (typeCall2 _ _) (newCall2 _ _) (fun obj => PySem.F.args_object_init_3 _ _ _) PySem.F.entry_int_new (meets_int16 h1 h2 n hn t u) ⟨rfl, q _ _ s.drawn ⟨_, rfl⟩⟩
theorem special_hex {ch : Nat} (h : special ch = true) : ∃ h1 h2, codeOf ch = [61, h1, h2] ∧ (h1, h2, (ch : Int)) ∈ [(51, 68, (61 : Int)), (48, 48, 0), (69, 57, 233)] := by
  have : ch = 61 ∨ ch = 0 ∨ ch = 233 := by simpa [special] using h
  rcases this with rfl | rfl | rfl
  · exact ⟨51, 68, by decide, by decide⟩
  · exact ⟨48, 48, by decide, by decide⟩
  · exact ⟨69, 57, by decide, by decide⟩
theorem un_quote {ch : Nat} {t : Tok} (room : c.A.depth < recursionLimit) (h : special ch = true) : GV c B m own (call (.ref 44) [.str (S (codeOf ch)) t]) fun _ v => ∃ t, v = .str (S [ch]) t := by
  obtain ⟨h1, h2, e, hn⟩ := special_hex h
  rw [e]
  refine GV.fn (binds := [kv "s" (.str (S [61, h1, h2]) t)]) (fn_unquote c.w) rfl room (fun s k => BindsTo.of_eq rfl) (by decide +kernel) (locs (by rfl)) rfl rfl rfl fun s => ?_
  refine XW.ret (EV.callB (VV.bl (bl_chr _) rfl rfl rfl rfl) (AV.cons (R1 := fun _ v => ∃ t, v = .int ch t) (EV.callT (VV.bl (bl_int _) rfl rfl rfl rfl) (AV.cons (SV.slice (VV.str (VV.loc rfl rfl rfl)) (PV.some IV.lit) (PV.some IV.lit) (by show 3 ≤ sizeLine; decide) fun _ _ => rfl) (fun B1 v b1 ⟨t1, ev⟩ => AV.cons IV.lit (fun B2 u b2 ⟨t2, eu⟩ => AV.nil fun B3 b3 => ?_) fun _ => rfl) fun _ => rfl) (fun _ => rfl) fun _ => rfl) (fun B1 v b1 r => AV.nil fun B2 b2 => ?_) fun _ => rfl) (fun _ => rfl) fun _ => rfl)
  · rw [show Txt.slice (S [61, h1, h2]) (some 1) (some 3) = S [h1, h2] from sl_mid (l := [61, h1, h2]) (a := 1) (b := 3) (by decide) (Nat.le_refl 3)] at ev
    subst ev eu
    exact gv_int16 hn
  · obtain ⟨t1, rfl⟩ := r
    have : ch = 61 ∨ ch = 0 ∨ ch = 233 := by simpa [special] using h
    exact gv_chr (by omega) (by omega)
end
end Mine

end
section
open PySem PySem.W PyProof.Rows
set_option Elab.async false
set_option autoImplicit false
set_option linter.unusedVariables false
set_option maxRecDepth 100000
namespace Mine
theorem strip_right (goes : Nat → Bool) (l r : List Nat) (z : Nat) (hr : ∀ ch ∈ r, goes ch = true) (hz : goes z = false) : Txt.stripBy goes false true (S (l ++ [z] ++ r)) = S (l ++ [z]) := by
  rw [PyProof.Rows.stripBy_eq]
  have h1 : stripLo goes false (S (l ++ [z] ++ r)) = 0 := rfl
  have h2 : stripHi goes true (S (l ++ [z] ++ r)) 0 = (l ++ [z]).length := by
    unfold stripHi
    rw [if_pos rfl, S_len]
    have : (((S (l ++ [z] ++ r)).cps.toList.drop 0).reverse.takeWhile goes) = r.reverse := by
      show ((l ++ [z] ++ r).reverse.takeWhile goes) = _
      rw [List.reverse_append, List.takeWhile_append_of_pos (fun a ha => hr a (List.mem_reverse.mp ha))]
      simp [hz]
    rw [this]
    simp; omega
  rw [h1, h2]
  refine PySem.Str.ext' (Array.toList_inj.mp ?_)
  show ((S (l ++ [z] ++ r)).cps.extract 0 (l ++ [z]).length).toList = l ++ [z]
  rw [Array.toList_extract, List.extract_eq_take_drop]
  show ((l ++ [z] ++ r).drop 0).take _ = _
  rw [List.drop_zero, Nat.sub_zero, List.take_left]
theorem rstrip_id {l : List Nat} {z : Nat} (hz : Unicode.isSpace z = false) : Txt.rstrip (S (l ++ [z])) = S (l ++ [z]) := by
  have := strip_right Unicode.isSpace l [] z (fun _ h => absurd h List.not_mem_nil) hz
  rwa [List.append_nil] at this
theorem ends_nl (d : List Nat) : Txt.endswith (S (d ++ [10])) (S [10]) = true := by
  unfold Txt.endswith Builtin.Str.subAt
  have h1 : (S (d ++ [10])).length = d.length + 1 := by rw [S_len]; simp
  have h2 : (S [10]).length = 1 := rfl
  rw [h1, h2, Nat.add_sub_cancel]
  simp
theorem sl_cut (d : List Nat) (z : Nat) : Txt.slice (S (d ++ [z])) none (some (-1)) = S d := by
  have := PySem.StrLaws.sliceText_to_neg (x := S (d ++ [z])) (j := -1) (by decide) (by rw [S_len]; simp; omega)
  refine Eq.trans this ?_
  have e : (-1 + ((S (d ++ [z])).length : Int) - 0).toNat = d.length := by rw [S_len]; simp; omega
  rw [e]
  simp
noncomputable def rowOf (p : List Nat × Bool) : List Nat := enc p.1 ++ (if p.2 then [61] else [])
noncomputable def decd (p : List Nat × Bool) : List Nat := p.1 ++ (if p.2 then [] else [10])
structure GoodSeg (p : List Nat × Bool) : Prop where
  ne : p.1 ≠ []
  chars : ∀ ch ∈ p.1, ch ∈ alpha
  len : p.1.length ≤ 9
  last : p.2 = false → ∀ ch, p.1.getLast? = some ch → ch ≠ 32 ∧ ch ≠ 9
theorem rowOf_last {p : List Nat × Bool} (g : GoodSeg p) : ∃ ini z, rowOf p = ini ++ [z] ∧ z ∈ codeChars ∧ z ≠ 32 ∧ z ≠ 9 := by
  obtain ⟨seg, soft⟩ := p
  cases soft with
  | true => exact ⟨enc seg, 61, rfl, by decide, by decide, by decide⟩
  | false =>
    obtain ⟨i, z, e, h⟩ := enc_last (n := seg) ⟨g.ne, g.chars, g.last rfl, g.len⟩
    exact ⟨i, z, by simp [rowOf, e], h⟩
theorem rowOf_chars {p : List Nat × Bool} (g : GoodSeg p) : ∀ z ∈ rowOf p, z ∈ codeChars := fun z hz => by
  rcases List.mem_append.mp hz with h | h
  · exact enc_chars g.chars z h
  · split at h
    · simp at h; subst h; decide
    · simp at h
theorem rowOf_len {p : List Nat × Bool} (g : GoodSeg p) : (rowOf p).length ≤ 28 := by
  have h1 := enc_len p.1
  have h2 := g.len
  unfold rowOf
  rw [List.length_append]
  split <;> simp <;> omega
theorem cc_space : ∀ z ∈ codeChars, z ≠ 32 → z ≠ 9 → Unicode.isSpace z = false := by decide +kernel
theorem tup65 (w : World) : ∃ oc od n sl t2, (KK w).lookup 65 = some ⟨oc, od, .seq #[.str (S [10]) t2] n, sl⟩ := by
  have h : (match (KK w).lookup 65 with | some ⟨_, _, .seq xs _, _⟩ => (match xs with | ⟨[.str y _]⟩ => y == S [10] | _ => false) | _ => false) = true := by kernel_rfl
  split at h
  · rename_i oc od xs n sl e
    split at h
    · rename_i y t2
      exact ⟨oc, od, n, sl, t2, by rw [e, eq_of_beq h]⟩
    · cases h
  · cases h
theorem fn_decode (w : World) : FnK w 72 (fdOf 21 (.ref 65) qpM (.ref 71)) := ⟨⟨.type "function", none, #[], by kernel_rfl⟩, by kernel_rfl⟩
theorem g_unquote (w : World) : nsIn (KK w) mainGlobals "unquote" = some (some (.ref 44)) := by kernel_rfl
noncomputable def hexAll : List Nat := (Str.ofString "0123456789abcdefABCDEF").cps.toList
theorem g_hex (w : World) : ∃ t, nsIn (KK w) mainGlobals "hexdigits" = some (some (.str (S hexAll) t)) := strG (by kernel_rfl)
theorem hex_in : ∀ p ∈ [(51, 68, (61 : Int)), (48, 48, 0), (69, 57, 233)], Txt.contains (S hexAll) (S [p.1]) = true ∧ Txt.contains (S hexAll) (S [p.2.1]) = true := by decide +kernel
section
variable {c : Cx} {B : Heap} {m : Lo} {own : Ow}
theorem TV.neS' {l r : Expr} {pos : Pos} {x y : List Nat} (hl : SV c B m own l (S x)) (hr : SV c B m own r (S y)) : TV c B m own (.Compare l [.NotEq] [r] pos) (x != y) := by
  have : (x != y) = (S x != S y) := by unfold bne; rw [S_beq]
  rw [this]; exact TV.neS hl hr
theorem de_code {xs : List (List Nat × Bool)} {d : List Nat} {t : Tok} (room : c.A.depth + 1 < recursionLimit) (hh : c.A.handled = none) (hg : ∀ p ∈ xs, GoodSeg p) (h0 : xs ≠ []) (hlen : xs.length ≤ 40) (hd : (xs.map decd).flatten = d ++ [10]) :
    GV c B m own (call (.ref 72) [.str (S (List.intercalate [10] (xs.map rowOf))) t]) fun _ v => ∃ t, v = .str (S d) t := by
  obtain ⟨oc, od, n57, sl, te, etup⟩ := tup65 c.w
  refine GV.fn (binds := [kv "encoded" (.str (S (List.intercalate [10] (xs.map rowOf))) t), kv "eol" (.str (S [10]) te)]) (fn_decode c.w) rfl (by omega) (fun s k => BindsTo.of_defaults rfl (k _ _ etup) rfl rfl rfl) (by decide +kernel) (locs (by rfl)) rfl rfl rfl fun s => ?_
  have room' : (sub c (fdOf 21 (.ref 65) qpM (.ref 71)) 72 s).A.depth < recursionLimit := room
  have hbl : (List.intercalate [10] (xs.map rowOf)).length ≤ 1200 := by
    have h1 := inter_len [10] (by decide) (xs.map rowOf)
    have h2 := flat_len (b := 28) (xs.map rowOf) fun x hx => by
      obtain ⟨p, hp, rfl⟩ := List.mem_map.mp hx
      exact rowOf_len (hg p hp)
    simp only [List.length_map] at h1 h2
    omega
  obtain ⟨iniA, zA, xA, hxA, hezA, hjA⟩ := inter_last [10] (xs.map rowOf) (by simpa using h0) fun x hx => by
    obtain ⟨p, hp, rfl⟩ := List.mem_map.mp hx
    obtain ⟨i, z, e, _⟩ := rowOf_last (hg p hp)
    exact ⟨i, z, e⟩
  have hzA : zA ∈ codeChars := by
    obtain ⟨p, hp, rfl⟩ := List.mem_map.mp hxA
    obtain ⟨j, e⟩ := hjA
    exact rowOf_chars (hg p hp) zA (by rw [e]; simp)
  refine XW.ite (x := false) ?_ (fun hx => nomatch hx) fun _ B1 b1 => XW.nil ?_
  · have e0 : false = !(S (List.intercalate [10] (xs.map rowOf)) != Str.empty) := by
      have : (S (List.intercalate [10] (xs.map rowOf)) != Str.empty) = true := by
        rw [bne_iff_ne]
        intro e
        have e' : S (List.intercalate [10] (xs.map rowOf)) = S [] := e
        have := S_inj e'
        rw [hezA] at this
        simp at this
      rw [this]; rfl
    rw [e0]
    exact TV.not (TV.truthS (VV.str (VV.loc rfl rfl rfl)) (by rw [S_len]; omega) fun _ => rfl)
  refine XW.assign (SV.lit.mono fun B2 v b2 ⟨t2, ev⟩ => ?_) rfl rfl rfl
  subst ev
  refine XW.forG ((EV.strM0 (R := fun B1 v => ∃ a, v = .ref a ∧ SL B1 a (Txt.lines (S (List.intercalate [10] (xs.map rowOf))))) (VV.str (VV.loc rfl rfl rfl)) PySem.F.slot_str_splitlines PySem.F.type_str_splitlines (fun B8 t b8 => (gv_splitlines (show (S (List.intercalate [10] (xs.map rowOf))).length + 1 ≤ sizeLine by rw [S_len]; unfold sizeLine; omega)).mono fun B9 v b9 ⟨a, h1, _, h2⟩ => ⟨a, h1, h2⟩) (mc_of (fun _ => rfl) rfl rfl)).mono fun B3 v b3 r => ?_) fun _ => rfl
  obtain ⟨la, rfl, l, hL, hle⟩ := r
  rw [lines_glued (by simpa using h0) (fun x hx => by obtain ⟨p, hp, rfl⟩ := List.mem_map.mp hx; exact fun z hz => cc_nobr z (rowOf_chars (hg p hp) z hz)) (fun x hx => by
    obtain ⟨p, hp, rfl⟩ := List.mem_map.mp hx
    obtain ⟨i, z, e, _⟩ := rowOf_last (hg p hp)
    rw [e]; simp)] at hle
  have hll : l.length = xs.length := by have := congrArg List.length hle; simpa using this
  have hdl : ∀ i, ((xs.take i).map decd).flatten.length ≤ 400 := fun i => by
    have h2 := flat_len (b := 10) ((xs.take i).map decd) fun x hx => by
      obtain ⟨p, hp, rfl⟩ := List.mem_map.mp hx
      have := (hg p (List.mem_of_mem_take hp)).len
      unfold decd
      rw [List.length_append]
      split <;> simp <;> omega
    simp only [List.length_map, List.length_take] at h2
    omega
  obtain ⟨J, hJ⟩ : ∃ J : Nat → Heap → Lo → Ow → Prop, J = fun i B m own => m.lookup (Str.ofString "encoded") = some (.str (S (List.intercalate [10] (xs.map rowOf))) t) ∧ m.lookup (Str.ofString "eol") = some (.str (S [10]) te) ∧ own = [] ∧ ∃ td, m.lookup (Str.ofString "decoded") = some (.str (S ((xs.take i).map decd).flatten) td) := ⟨_, rfl⟩
  refine FO.list J hh hL (fun B9 b9 => by rw [hJ]; exact ⟨rfl, rfl, rfl, t2, rfl⟩) ?_ ?_ rfl rfl
  · intro i v B0 B4 m0 own1 q hv b0 b4 g
    rw [hJ] at g
    obtain ⟨g1, g2, rfl, td, g3⟩ := g
    rw [strValues, List.getElem?_map] at hv
    obtain ⟨⟨x, tx⟩, hp, rfl⟩ := Option.map_eq_some_iff.mp hv
    have hxe : (l.map (·.1))[i]? = some x := by rw [List.getElem?_map, hp]; rfl
    rw [hle, List.getElem?_map, List.getElem?_map] at hxe
    obtain ⟨y, hy, rfl⟩ := Option.map_eq_some_iff.mp hxe
    obtain ⟨p, hpx, rfl⟩ := Option.map_eq_some_iff.mp hy
    have hgp := hg p (List.mem_of_getElem? hpx)
    obtain ⟨ini, z, hez, hzc, hz32, hz9⟩ := rowOf_last hgp
    have hrl := rowOf_len hgp
    have hnxt : ((xs.take (i + 1)).map decd).flatten = ((xs.take i).map decd).flatten ++ decd p := by rw [List.take_add_one, hpx]; simp
    have hb400 := hdl i
    generalize ((xs.take i).map decd).flatten = base at g3 hb400 hnxt
    clear hv hp hxe hy
    dsimp only
    have k1 := lk_other (x := Str.ofString "line") (v := .str (S (rowOf p)) tx) g1
    have k2 := lk_other (x := Str.ofString "line") (v := .str (S (rowOf p)) tx) g2
    have k3 := lk_other (x := Str.ofString "line") (v := .str (S (rowOf p)) tx) g3
    have k4 : (put m0 (Str.ofString "line") (.str (S (rowOf p)) tx)).lookup (Str.ofString "line") = some (.str (S (rowOf p)) tx) := lk_same
    generalize put m0 (Str.ofString "line") (.str (S (rowOf p)) tx) = m1 at k1 k2 k3 k4
    refine XW.assign ((EV.strM0 (R := fun _ v => ∃ t, v = .str (S (rowOf p)) t) (VV.str (VV.loc k4 rfl rfl)) PySem.F.slot_str_rstrip PySem.F.type_str_rstrip (fun B8 t b8 => (gv_rstrip (by rw [S_len]; unfold sizeLine; omega)).mono fun B9 v b9 ⟨t, e⟩ => ⟨t, by rw [e, hez, rstrip_id (cc_space z hzc hz32 hz9)]⟩) (mc_of (fun _ => rfl) rfl rfl)).mono fun B5 v b5 ⟨t5, ev⟩ => ?_) rfl rfl rfl
    subst ev
    have hne : (S (rowOf p) != Str.empty) = true := by
      rw [bne_iff_ne]
      intro e
      have e' : S (rowOf p) = S [] := e
      have := S_inj e'
      rw [hez] at this
      simp at this
    refine XW.ite (x := false) (by have e0 : false = !(S (rowOf p) != Str.empty) := by rw [hne]; rfl
                                   rw [e0]; exact TV.not (TV.truthS (VV.str (VV.loc lk_same rfl rfl)) (by rw [S_len]; omega) fun _ => rfl)) (fun hx => nomatch hx) fun _ B6 b6 => XW.nil ?_
    refine XW.assign (IV.lit.mono fun B7 v b7 ⟨t7, ev⟩ => ?_) rfl rfl rfl
    subst ev
    refine XW.assign ((IV.lenS (VV.bl (bl_len _) rfl rfl rfl rfl) (VV.str (VV.loc (lk_other lk_same) rfl rfl)) (by rw [S_len]; omega) fun _ => rfl).mono fun B8 v b8 ⟨t8, ev⟩ => ?_) rfl rfl rfl
    rw [S_len] at ev
    subst ev
    have q1 := lk_other (x := Str.ofString "n") (v := .int ((rowOf p).length : Int) t8) (lk_other (x := Str.ofString "i") (v := .int (0 : Int) t7) (lk_other (x := Str.ofString "line") (v := .str (S (rowOf p)) t5) k1))
    have q2 := lk_other (x := Str.ofString "n") (v := .int ((rowOf p).length : Int) t8) (lk_other (x := Str.ofString "i") (v := .int (0 : Int) t7) (lk_other (x := Str.ofString "line") (v := .str (S (rowOf p)) t5) k2))
    have q3 := lk_other (x := Str.ofString "n") (v := .int ((rowOf p).length : Int) t8) (lk_other (x := Str.ofString "i") (v := .int (0 : Int) t7) (lk_other (x := Str.ofString "line") (v := .str (S (rowOf p)) t5) k3))
    have q4 : (put (put (put m1 (Str.ofString "line") (.str (S (rowOf p)) t5)) (Str.ofString "i") (.int (0 : Int) t7)) (Str.ofString "n") (.int ((rowOf p).length : Int) t8)).lookup (Str.ofString "line") = some (.str (S (rowOf p)) t5) := lk_other (lk_other lk_same)
    have q5 : (put (put (put m1 (Str.ofString "line") (.str (S (rowOf p)) t5)) (Str.ofString "i") (.int (0 : Int) t7)) (Str.ofString "n") (.int ((rowOf p).length : Int) t8)).lookup (Str.ofString "i") = some (.int ((0 : Nat) : Int) t7) := lk_other lk_same
    have q6 : (put (put (put m1 (Str.ofString "line") (.str (S (rowOf p)) t5)) (Str.ofString "i") (.int (0 : Int) t7)) (Str.ofString "n") (.int ((rowOf p).length : Int) t8)).lookup (Str.ofString "n") = some (.int ((rowOf p).length : Int) t8) := lk_same
    generalize put (put (put m1 (Str.ofString "line") (.str (S (rowOf p)) t5)) (Str.ofString "i") (.int (0 : Int) t7)) (Str.ofString "n") (.int ((rowOf p).length : Int) t8) = m2 at q1 q2 q3 q4 q5 q6
    obtain ⟨seg, soft⟩ := p
    have hsl := hgp.len
    dsimp only at hsl
    generalize hN : (rowOf (seg, soft)).length = N at hrl q6
    generalize hln : rowOf (seg, soft) = ln at q4 hN hez
    generalize htl : (if soft then [61] else [] : List Nat) = tl
    have hrow : ln = enc seg ++ tl := by rw [← hln, ← htl]; rfl
    obtain ⟨I, hI⟩ : ∃ I : Nat → Heap → Lo → Ow → Prop, I = fun n B m own => m.lookup (Str.ofString "encoded") = some (.str (S (List.intercalate [10] (xs.map rowOf))) t) ∧ m.lookup (Str.ofString "eol") = some (.str (S [10]) te) ∧ m.lookup (Str.ofString "line") = some (.str (S ln) t5) ∧ m.lookup (Str.ofString "n") = some (.int (N : Int) t8) ∧ own = [q] ∧ ∃ (k : Nat) (ti td : Tok) (dec : List Nat), m.lookup (Str.ofString "i") = some (.int (k : Int) ti) ∧ m.lookup (Str.ofString "decoded") = some (.str (S dec) td) ∧ n = N - k ∧ k ≤ N ∧
        ((∃ pre g, seg = pre ++ g ∧ ln.drop k = enc g ++ tl ∧ (g ≠ [] ∨ soft = true) ∧ dec = base ++ pre) ∨ (k = N ∧ dec = base ++ decd (seg, soft))) := ⟨_, rfl⟩
    refine XW.while I N (by rw [hI]; exact ⟨q1, q2, q4, q6, rfl, 0, t7, td, base, q5, q3, rfl, Nat.zero_le _, .inl ⟨[], seg, rfl, by rw [List.drop_zero, hrow], .inl hgp.ne, by simp⟩⟩) ?_
    clear q1 q2 q3 q4 q5 q6 k1 k2 k3 k4
    intro n B9 m3 own3 b9 g
    rw [hI] at g
    obtain ⟨q1, q2, q4, q6, rfl, k, ti, td', dec, q5, q3, rfl, hkN, hst⟩ := g
    refine ⟨_, TV.lt (VV.int (VV.loc q5 rfl rfl)) (VV.int (VV.loc q6 rfl rfl)), fun hx B10 b10 => ?_, fun hx B10 b10 => ?_⟩
    · have hx : k < N := by have := of_decide_eq_true hx; omega
      rcases hst.symm with ⟨h1, _⟩ | ⟨pre, g, hseg, hdr, hgs, rfl⟩
      · omega
      have hat : ∀ j, ln[k + j]? = (enc g ++ tl)[j]? := fun j => by rw [← hdr, List.getElem?_drop]
      have hleft : N - k = (enc g ++ tl).length := by rw [← hdr, List.length_drop, hN]
      cases g with
      | nil =>
        have hs : soft = true := by rcases hgs with h | h; exact absurd rfl h; exact h
        subst hs
        simp only [if_true] at htl
        subst htl
        have hNk : N = k + 1 := by simp [enc] at hleft; omega
        have hc : Txt.charAt (S ln) (k : Int) = some 61 := by
          rw [charAt_nat _ _ (by omega)]
          have := hat 0
          simpa [enc] using this
        refine XW.assign ((SV.idx (VV.str (VV.loc q4 rfl rfl)) (VV.int (VV.loc q5 rfl rfl)) (by omega) (by omega) hc fun _ _ => rfl).mono fun B11 v b11 ⟨t11, ev⟩ => ?_) rfl rfl rfl
        subst ev
        refine XW.ite (TV.neS' (VV.str (VV.loc lk_same rfl rfl)) SV.lit) (fun hx => absurd (show ([61] != [61]) = true from hx) (by decide)) fun _ B12 b12 => ?_
        refine XW.ite (x := true) (by
          have e0 : true = ((k : Int) + 1 == (N : Int)) := by rw [hNk]; simp
          rw [e0]; exact TV.eqI (IV.add (VV.int (VV.loc (lk_other q5) rfl rfl)) IV.lit) (VV.int (VV.loc (lk_other q6) rfl rfl))) (fun _ B13 b13 => ?_) fun hx => nomatch hx
        refine XW.aug (lk_other q5) IV.lit (fun B14 v b14 ⟨t14, ev⟩ => ?_) rfl rfl
        subst ev
        refine gv_iadd_int.mono fun B15 v b15 ⟨t15, ev⟩ => ?_
        subst ev
        refine XW.cont ⟨N - (k + 1), by omega, ?_⟩
        rw [hI]
        refine ⟨lk_other (lk_other q1), lk_other (lk_other q2), lk_other (lk_other q4), lk_other (lk_other q6), rfl, k + 1, t15, td', base ++ pre, lk_same, lk_other (lk_other q3), rfl, by omega, .inr ⟨hNk.symm, ?_⟩⟩
        rw [hseg]; simp [decd]
      | cons ch g =>
        have hch : ch ∈ alpha := hgp.chars ch (by show ch ∈ seg; rw [hseg]; simp)
        have hpl : pre.length + g.length + 1 ≤ 9 := by
          have := congrArg List.length hseg
          simp at this; omega
        have henc : enc (ch :: g) = codeOf ch ++ enc g := by simp [enc]
        rw [henc] at hat hleft hdr
        have hcl := codeOf_len ch
        have hc0 : ∃ c0, (codeOf ch)[0]? = some c0 := ⟨_, List.getElem?_eq_getElem (by omega)⟩
        obtain ⟨c0, hc0⟩ := hc0
        have hc : Txt.charAt (S ln) (k : Int) = some c0 := by
          rw [charAt_nat _ _ (by omega)]
          have := hat 0
          rw [List.append_assoc, List.getElem?_append_left (by omega), hc0] at this
          exact this
        refine XW.assign ((SV.idx (VV.str (VV.loc q4 rfl rfl)) (VV.int (VV.loc q5 rfl rfl)) (by omega) (by omega) hc fun _ _ => rfl).mono fun B11 v b11 ⟨t11, ev⟩ => ?_) rfl rfl rfl
        subst ev
        have r1 := lk_other (x := Str.ofString "c") (v := .str (S [c0]) t11) q1
        have r2 := lk_other (x := Str.ofString "c") (v := .str (S [c0]) t11) q2
        have r3 := lk_other (x := Str.ofString "c") (v := .str (S [c0]) t11) q3
        have r4 := lk_other (x := Str.ofString "c") (v := .str (S [c0]) t11) q4
        have r5 := lk_other (x := Str.ofString "c") (v := .str (S [c0]) t11) q5
        have r6 := lk_other (x := Str.ofString "c") (v := .str (S [c0]) t11) q6
        have r7 : (put m3 (Str.ofString "c") (.str (S [c0]) t11)).lookup (Str.ofString "c") = some (.str (S [c0]) t11) := lk_same
        generalize put m3 (Str.ofString "c") (.str (S [c0]) t11) = m4 at r1 r2 r3 r4 r5 r6 r7
        obtain ⟨W, hW⟩ : ∃ W : Heap → Lo → Ow → Prop, W = fun B m own => m.lookup (Str.ofString "encoded") = some (.str (S (List.intercalate [10] (xs.map rowOf))) t) ∧ m.lookup (Str.ofString "eol") = some (.str (S [10]) te) ∧ m.lookup (Str.ofString "line") = some (.str (S ln) t5) ∧ m.lookup (Str.ofString "n") = some (.int (N : Int) t8) ∧ own = [q] ∧ ∃ (ti td : Tok), m.lookup (Str.ofString "i") = some (.int ((k + (codeOf ch).length : Nat) : Int) ti) ∧ m.lookup (Str.ofString "decoded") = some (.str (S (base ++ pre ++ [ch])) td) := ⟨_, rfl⟩
        refine XW.iteJ W
          (TV.neS' (VV.str (VV.loc r7 rfl rfl)) SV.lit) (fun hx B12 b12 => ?_) (fun hx B12 b12 => ?_) ?_
        · have hx : ([c0] != [61]) = true := hx
          have hc61 : c0 ≠ 61 := by simpa using hx
          have hns : special ch = false := by
            cases h : special ch with
            | false => rfl
            | true =>
              obtain ⟨h1, h2, e, _⟩ := special_hex h
              rw [e] at hc0
              simp at hc0
              exact absurd hc0.symm hc61
          have hco : codeOf ch = [ch] := by unfold codeOf; rw [if_neg (by rw [hns]; decide)]
          rw [hco] at hc0
          have hc0 : ch = c0 := by simpa using hc0
          subst hc0
          refine XW.aug r3 (VV.loc r7 rfl rfl) (fun B13 v b13 ev => ?_) rfl rfl
          subst ev
          refine (gv_iadd_str (by rw [S_len, S_len]; simp; unfold sizeLine; omega)).mono fun B14 v b14 ⟨t14, ev⟩ => ?_
          subst ev
          refine XW.aug (lk_other r5) IV.lit (fun B15 v b15 ⟨t15, ev⟩ => ?_) rfl rfl
          subst ev
          refine gv_iadd_int.mono fun B16 v b16 ⟨t16, ev⟩ => ?_
          subst ev
          exact XW.nil ⟨rfl, by rw [hW]; exact ⟨lk_other (lk_other r1), lk_other (lk_other r2), lk_other (lk_other r4), lk_other (lk_other r6), rfl, t16, t14, by rw [hco]; exact lk_same, by rw [lk_other lk_same, S_app]⟩⟩
        · have hx : ([c0] != [61]) = false := hx
          have hc61 : c0 = 61 := by simpa using hx
          have hsp : special ch = true := by
            cases h : special ch with
            | true => rfl
            | false =>
              have hco : codeOf ch = [ch] := by unfold codeOf; rw [if_neg (by rw [h]; decide)]
              rw [hco] at hc0
              have hc0 : ch = c0 := by simpa using hc0
              rw [hc0, hc61] at h
              exact absurd h (by decide)
          obtain ⟨h1, h2, hco, hmem⟩ := special_hex hsp
          obtain ⟨hx1, hx2⟩ := hex_in _ hmem
          obtain ⟨thx, hhx⟩ := g_hex c.w
          have hl3 : (codeOf ch).length = 3 := by rw [hco]; rfl
          have hN3 : k + 3 ≤ N := by rw [hco] at hleft; simp only [List.length_append, List.length_cons, List.length_nil] at hleft; omega
          have hc1 : Txt.charAt (S ln) ((k + 1 : Nat) : Int) = some h1 := by
            rw [charAt_nat _ _ (by omega), hat 1, hco]; rfl
          have hc2 : Txt.charAt (S ln) ((k + 2 : Nat) : Int) = some h2 := by
            rw [charAt_nat _ _ (by omega), hat 2, hco]; rfl
          refine XW.ite (x := false) (by
            have e0 : false = ((k : Int) + 1 == (N : Int)) := by
              symm; rw [beq_eq_false_iff_ne]; omega
            rw [e0]; exact TV.eqI (IV.add (VV.int (VV.loc r5 rfl rfl)) IV.lit) (VV.int (VV.loc r6 rfl rfl))) (fun hx => nomatch hx) fun _ B13 b13 => ?_
          refine XW.ite (x := true) (by
            have e0 : true = (decide ((k : Int) + 2 < (N : Int)) && (Txt.contains (S hexAll) (S [h1]) && Txt.contains (S hexAll) (S [h2]))) := by
              rw [hx1, hx2, decide_eq_true (by omega)]; rfl
            rw [e0]
            exact TV.and3 (TV.lt (IV.add (VV.int (VV.loc r5 rfl rfl)) IV.lit) (VV.int (VV.loc r6 rfl rfl)))
              (fun _ => TV.inS (SV.idx (i := ((k + 1 : Nat) : Int)) (VV.str (VV.loc r4 rfl rfl)) (IV.add (VV.int (VV.loc r5 rfl rfl)) IV.lit) (by omega) (by omega) hc1 fun _ _ => rfl) (VV.str (VV.glob hhx rfl rfl rfl)) rfl)
              (fun _ _ => TV.inS (SV.idx (i := ((k + 2 : Nat) : Int)) (VV.str (VV.loc r4 rfl rfl)) (IV.add (VV.int (VV.loc r5 rfl rfl)) IV.lit) (by omega) (by omega) hc2 fun _ _ => rfl) (VV.str (VV.glob hhx rfl rfl rfl)) rfl)) (fun _ B14 b14 => ?_) fun hx => nomatch hx
          refine XW.aug (R := fun _ v => ∃ t, v = .str (S [ch]) t) r3 (EV.callF (VV.glob (g_unquote _) rfl rfl rfl) (fn_unquote _) (AV.cons (R1 := fun _ v => ∃ t, v = .str (S (codeOf ch)) t) ?_ (fun B15 v b15 ⟨t15, ev⟩ => AV.nil fun B16 b16 => by subst ev; exact un_quote room' hsp) fun _ => rfl) fun _ => rfl) (fun B15 v b15 ⟨t15, ev⟩ => ?_) rfl rfl
          · have e1 : codeOf ch = (ln.drop k).take (k + 3 - k) := by rw [hdr, show k + 3 - k = 3 by omega, List.append_assoc, ← hl3, List.take_left]
            rw [e1, ← sl_mid (by omega) (by omega)]
            exact SV.slice (VV.str (VV.loc r4 rfl rfl)) (PV.some (VV.int (VV.loc r5 rfl rfl))) (PV.some (IV.add (VV.int (VV.loc r5 rfl rfl)) IV.lit)) (by rw [S_len]; unfold sizeLine; omega) fun _ _ => rfl
          · subst ev
            refine (gv_iadd_str (by rw [S_len, S_len]; simp; unfold sizeLine; omega)).mono fun B16 v b16 ⟨t16, ev⟩ => ?_
            subst ev
            refine XW.aug (lk_other r5) IV.lit (fun B17 v b17 ⟨t17, ev⟩ => ?_) rfl rfl
            subst ev
            refine gv_iadd_int.mono fun B18 v b18 ⟨t18, ev⟩ => ?_
            subst ev
            exact XW.nil (XW.nil (XW.nil ⟨rfl, by rw [hW]; exact ⟨lk_other (lk_other r1), lk_other (lk_other r2), lk_other (lk_other r4), lk_other (lk_other r6), rfl, t18, t16, by rw [hl3]; exact lk_same, by rw [lk_other lk_same, S_app]⟩⟩))
        · intro B13 m5 own5 b13 g
          rw [hW] at g
          obtain ⟨w1, w2, w4, w6, rfl, ti', td2, w5, w3⟩ := g
          have hlen2 : N - (k + (codeOf ch).length) = (enc g ++ tl).length := by
            rw [List.append_assoc, List.length_append] at hleft; omega
          have hkN2 : k + (codeOf ch).length ≤ N := by rw [List.append_assoc, List.length_append] at hleft; omega
          have hdr2 : ln.drop (k + (codeOf ch).length) = enc g ++ tl := by
            rw [← List.drop_drop, hdr, List.append_assoc, List.drop_left]
          refine XW.ite (TV.eqI (VV.int (VV.loc w5 rfl rfl)) (VV.int (VV.loc w6 rfl rfl))) (fun hx B14 b14 => ?_) fun hx B14 b14 => ?_
          · have hx : k + (codeOf ch).length = N := by have := eq_of_beq hx; omega
            have hz0 : (enc g ++ tl) = [] := List.eq_nil_of_length_eq_zero (by omega)
            obtain ⟨z1, z2⟩ := List.append_eq_nil_iff.mp hz0
            have hg0 : g = [] := by
              cases g with
              | nil => rfl
              | cons a b => exact absurd z1 (enc_ne (by simp))
            have hs0 : soft = false := by
              cases soft with
              | false => rfl
              | true => rw [← htl] at z2; simp at z2
            refine XW.aug w3 (VV.loc w2 rfl rfl) (fun B15 v b15 ev => ?_) rfl rfl
            subst ev
            refine (gv_iadd_str (by rw [S_len, S_len]; simp; unfold sizeLine; omega)).mono fun B16 v b16 ⟨t16, ev⟩ => ?_
            subst ev
            refine XW.nil (XW.nil ⟨N - N, by omega, ?_⟩)
            rw [hI]
            refine ⟨lk_other w1, lk_other w2, lk_other w4, lk_other w6, rfl, N, ti', t16, base ++ pre ++ [ch] ++ [10], by rw [← hx]; exact lk_other w5, by rw [lk_same, S_app], rfl, Nat.le_refl _, .inr ⟨rfl, ?_⟩⟩
            rw [hseg, hg0, hs0]; simp [decd]
          · have hx : k + (codeOf ch).length ≠ N := by have := beq_eq_false_iff_ne.mp hx; omega
            refine XW.nil (XW.nil ⟨N - (k + (codeOf ch).length), by omega, ?_⟩)
            rw [hI]
            refine ⟨w1, w2, w4, w6, rfl, k + (codeOf ch).length, ti', td2, base ++ pre ++ [ch], w5, w3, rfl, hkN2, .inl ⟨pre ++ [ch], g, by rw [hseg]; simp, hdr2, ?_, by simp⟩⟩
            cases g with
            | cons a b => left; simp
            | nil =>
              right
              cases soft with
              | true => rfl
              | false =>
                rw [← htl] at hlen2
                simp [enc] at hlen2
                omega
    · have hx : ¬ k < N := by have := of_decide_eq_false hx; omega
      rcases hst with ⟨pre, g, hseg, hdr, hgs, rfl⟩ | ⟨h1, h2⟩
      · exfalso
        rw [List.drop_eq_nil_of_le (by omega)] at hdr
        obtain ⟨z1, z2⟩ := List.append_eq_nil_iff.mp hdr.symm
        rcases hgs with h | h
        · exact enc_ne h z1
        · subst h; rw [← htl] at z2; simp at z2
      · exact XW.nil ⟨_, rfl, by rw [hJ]; exact ⟨q1, q2, rfl, td', by rw [q3, h2, hnxt]⟩⟩
  · intro B4 m1 own1 b4 g
    rw [hJ] at g
    obtain ⟨g1, g2, rfl, td, g3⟩ := g
    rw [show (strValues l).length = xs.length by simp [strValues, hll], List.take_length, hd] at g3
    refine XW.ite (x := true) ?_ (fun _ B5 b5 => ?_) fun hx => nomatch hx
    · have e0 : true = ((!Txt.contains (S [13, 10]) (S [zA])) && Txt.endswith (S (d ++ [10])) (S [10])) := by rw [(cc_in zA hzA).1, ends_nl]; rfl
      rw [e0]
      refine TV.and2 (TV.notInS (SV.idx (VV.str (VV.loc g1 rfl rfl)) (IV.neg IV.lit) (by decide) (by decide) ?_ fun _ _ => rfl) SV.lit rfl) fun _ => TV.ofV (EV.strM1 (VV.str (VV.loc g3 rfl rfl)) PySem.F.slot_str_endswith PySem.F.type_str_endswith (VV.str (VV.loc g2 rfl rfl)) (fun B1 t u => gv_endswith) (mc_of (fun _ => rfl) rfl rfl) fun _ => rfl) fun _ => rfl
      rw [hezA]; exact charAt_last iniA zA
    · have hdl' := hdl xs.length
      rw [List.take_length, hd] at hdl'
      refine XW.assign ((SV.slice (VV.str (VV.loc g3 rfl rfl)) PV.none (PV.some (IV.neg (IV.lenS (VV.bl (bl_len _) rfl rfl rfl rfl) (VV.str (VV.loc g2 rfl rfl)) (by rw [S_len]; decide) fun _ => rfl))) (by rw [S_len]; unfold sizeLine; omega) fun _ _ => rfl).mono fun B6 v b6 ⟨t6, ev⟩ => ?_) rfl rfl rfl
      have e1 : Txt.slice (S (d ++ [10])) none (some (-((S [10]).length : Int))) = S d := sl_cut d 10
      rw [e1] at ev
      subst ev
      exact XW.nil (XW.ret ((VV.loc lk_same rfl rfl).mono fun B7 v b7 ev => ⟨t6, ev⟩))
end
end Mine

end
section
open PySem PySem.W PyProof.Rows
set_option Elab.async false
set_option autoImplicit false
set_option linter.unusedVariables false
set_option maxRecDepth 100000
namespace Mine
/-! calls that change objects of the caller -/
noncomputable abbrev subX (c : Cx) (fd : FuncData) (f : Addr) (s : Shared) (X : Addr → Prop) : Cx := ⟨c.w, c.A.deeper (callEnv fd s.heap.objs.size f), c.G, s, X, callEnv fd s.heap.objs.size f⟩
section
variable {c : Cx} {B : Heap} {m : Lo} {own : Ow}
theorem Fm.backX {c' : Cx} {B' : Heap} {m' : Lo} {T T' R : Ow} {s s' : Shared} (F : Fm c B m (T ++ R) s) (F' : Fm c' B' m' T' s') (h0 : c'.s₀ = s) (hX : ∀ b, c'.X b → b ∈ T.map (·.1)) (b : Bs s.heap.objs.size B B') : Fm c B' m (T' ++ R) s' := by
  have nd := F.nd
  rw [List.map_append, List.nodup_append] at nd
  obtain ⟨nd1, nd2, nd3⟩ := nd
  have hT : ∀ p ∈ T, B.get? p.1 = none ∧ p.1 ≠ c.L ∧ (c.n ≤ p.1 ∨ c.X p.1) := fun p hp => F.bown p (List.mem_append.mpr (.inl hp))
  have hk : ∀ b o, ¬ c'.X b → s.heap.get? b = some o → s'.heap.get? b = some o := fun b o hx e => F'.keep b o hx (h0 ▸ e)
  have hsz : s.heap.objs.size ≤ s'.heap.objs.size := by have := F'.size; rw [← h0]; exact this
  have hnX : ∀ b, (∀ p ∈ T, p.1 ≠ b) → ¬ c'.X b := fun b h hx => by
    obtain ⟨p, hp, e⟩ := List.mem_map.mp (hX b hx)
    exact h p hp e
  have hLX : ¬ c'.X c.L := hnX _ fun p hp => (hT p hp).2.1
  have hT' : ∀ p ∈ T', p.1 ∈ T.map (·.1) ∨ s.heap.objs.size ≤ p.1 := fun p hp => by
    rcases (F'.bown p hp).2.2 with h | h
    · right; rw [← h0]; exact h
    · exact .inl (hX _ h)
  refine ⟨F.gg, F.gx.trans b.ext, F.gn, fun p o h e => ?_, Nat.le_trans F.size hsz, F'.frz, ?_, fun p hp => ?_, b.none F.bL F.ns.lt, F.lL, fun p hp => ?_, ?_, ?_, ?_, F'.tk⟩
  · refine hk p o (fun hx => ?_) (F.keep p o h e)
    obtain ⟨q, hq, rfl⟩ := List.mem_map.mp (hX p hx)
    rcases (hT q hq).2.2 with h' | h'
    · exact absurd (Heap.lt_size e) (Nat.not_lt.mpr h')
    · exact h h'
  · obtain ⟨o, es, ep, ho, r⟩ := F.ns
    exact ⟨o, es, ep, hk _ _ hLX ho, r⟩
  · rcases List.mem_append.mp hp with hp | hp
    · exact F'.ow p hp
    · obtain ⟨o, ho, q⟩ := F.ow p (List.mem_append.mpr (.inr hp))
      exact ⟨o, hk _ _ (hnX _ fun t ht e => nd3 t.1 (List.mem_map_of_mem ht) p.1 (List.mem_map_of_mem hp) e) ho, q⟩
  · rcases List.mem_append.mp hp with hp | hp
    · refine ⟨(F'.bown p hp).1, ?_⟩
      rcases hT' p hp with h | h
      · obtain ⟨q, hq, e⟩ := List.mem_map.mp h
        rw [← e]; exact (hT q hq).2
      · exact ⟨fun e => absurd (e ▸ h) (Nat.not_le.mpr F.ns.lt), .inl (Nat.le_trans F.size h)⟩
    · have q := F.bown p (List.mem_append.mpr (.inr hp))
      obtain ⟨o, ho, _⟩ := F.ow p (List.mem_append.mpr (.inr hp))
      exact ⟨b.none q.1 (Heap.lt_size ho), q.2⟩
  · rw [List.map_append, List.nodup_append]
    refine ⟨F'.nd, nd2, fun x hx y hy e => ?_⟩
    subst e
    obtain ⟨p, hp, rfl⟩ := List.mem_map.mp hx
    obtain ⟨q, hq, e⟩ := List.mem_map.mp hy
    rcases hT' p hp with h | h
    · exact nd3 _ h _ hy rfl
    · obtain ⟨o, ho, _⟩ := F.ow q (List.mem_append.mpr (.inr hq))
      exact absurd (Heap.lt_size ho) (Nat.not_lt.mpr (e ▸ h))
  · have := F'.gens; rw [h0] at this; exact this.trans F.gens
  · have := F'.os; rw [h0] at this; exact this.trans F.os
theorem Fm.enterX {T R : Ow} {s : Shared} {fd : FuncData} {f : Addr} {h₀ : Heap} {bi : Lo} {k : Nat} (F : Fm c B m (T ++ R) s) (hns : h₀.Ns s.heap.objs.size (fun x => bi.lookup x)) (hk : ∀ b o, s.heap.get? b = some o → h₀.get? b = some o) (ht : s.toks ≤ k) :
    Fm (subX c fd f s fun a => a ∈ T.map (·.1)) B bi T { s with heap := h₀, toks := k } := by
  have nd := F.nd
  rw [List.map_append, List.nodup_append] at nd
  refine ⟨F.gg, F.gx, Nat.le_trans F.gn F.size, fun b o _ e => hk b o e, Nat.le_of_lt hns.lt, fun b o e => hk _ _ (F.frz _ _ e), hns, fun p hp => ?_, F.fresh, Nat.le_refl _, fun p hp => ?_, nd.1, rfl, rfl, Nat.le_trans F.tk ht⟩
  · obtain ⟨o, ho, q⟩ := F.ow p (List.mem_append.mpr (.inl hp))
    exact ⟨o, hk _ _ ho, q⟩
  · have q := F.bown p (List.mem_append.mpr (.inl hp))
    obtain ⟨o, ho, _⟩ := F.ow p (List.mem_append.mpr (.inl hp))
    exact ⟨q.1, fun e => absurd (Heap.lt_size ho) (Nat.not_lt.mpr (Nat.le_of_eq e.symm)), .inr (List.mem_map_of_mem hp)⟩
theorem GX.fnX {f : Addr} {fd : FuncData} {body : List Stmt} {args : List Value} {binds : List (Str × Value)} {T R : Ow} {P : Heap → Ow → Value → Prop} (hf : FnK c.w f fd) (hbody : fd.body = .stmts body) (room : c.A.depth < recursionLimit)
    (hbind : ∀ s : Shared, (KK c.w).In s.heap → BindsTo s fd ⟨args, []⟩ binds) (hcell : ∀ x ∈ fd.scope.names, x.2 ≠ .cell) (hloc : ∀ x ∈ binds, fd.scope.names.lookup x.1 = some .local)
    (hco : fd.scope.isCoroutine = false) (hgen : fd.scope.isGenerator = false) (hk : fd.scope.kind = .function)
    (h : ∀ s, XW (subX c fd f s fun a => a ∈ T.map (·.1)) B binds.reverse T (execs body (callEnv fd s.heap.objs.size f)) fun fl B' _ T' => P B' T' (retv fl)) : GX c B m (T ++ R) (call (.ref f) args) fun B' own' v => ∃ T', own' = T' ++ R ∧ P B' T' v :=
  ⟨fun s Q E F q => by
    have kk := F.gl.k.keeps F.frz
    obtain ⟨o, ho, hd⟩ := hf.get kk
    with_reducible refine wpAny_call (codeAny_call_def room ho hd (F.gl.lim.keeps F.frz) (codeRec_of kk hf.code) hbody (hbind s kk) hcell hloc (fun h₀ hns hk₀ => ?_) hco hgen hk)
    have F1 := F.enterX (fd := fd) (f := f) (k := s.toks + binds.length) hns hk₀ (Nat.le_add_right _ _)
    with_reducible refine (h s).run _ _ _ F1 fun fl s' B' m' own' b F' r => ?_
    have := q (retv fl) s' B' _ (b.low F.size) (F.backX F' rfl (fun _ h => h) b) ⟨own', rfl, r⟩
    cases fl <;> exact this⟩
/-- the same called through a name -/
theorem EX.callF {x : Str} {p pos : Pos} {e : Expr} {rest : List Expr} {f : Addr} {fd : FuncData} {R : Heap → Ow → Value → Prop} (hx : VV c B m own (.Name x p) (.ref f)) (hf : FnK c.w f fd)
    (h : AV c B m own pos (e :: rest) fun B' vs => GX c B' m own (call (.ref f) vs) R) (hs : ∀ env, starEach (e :: rest) env = (false, eval e env) :: starEach rest env) : EX c B m own (.Call (.Name x p) (e :: rest) [] pos) R :=
  ⟨fun B' b => ⟨fun s Q E F q => by
    with_reducible refine Call_ ((hx.run B' b).run s _ E F fun v s1 B1 b1 F1 r1 => ?_) rfl
    subst r1
    obtain ⟨o, ho, hd⟩ := hf.get F1.gl.k
    with_reducible refine callWith_def (o := o) hd ((h.run B1 (b.trans b1)).run s1 _ E F1 fun vs s2 B2 b2 F2 r2 => ⟨F2.frz _ _ (b2.ext _ _ ho), r2.run s2 Q E F2 fun v s3 B3 own3 b3 F3 r3 => q v s3 B3 own3 (b1.trans (b2.trans b3)) F3 r3⟩) (hs _)⟩⟩
end
end Mine

end
section
open PySem PySem.W PyProof.Rows
set_option Elab.async false
set_option autoImplicit false
set_option linter.unusedVariables false
set_option maxRecDepth 100000
namespace Mine
/-! the tree of dicts: the nodes, the newest first, each with its way from the root -/
noncomputable abbrev Tr := List (List (List Nat) × Addr)
noncomputable abbrev sk (w : World) := strKind PySem.Challenge.pw_qw0067_01 w
noncomputable abbrev isD (w : World) (kvs : List (Str × Value)) (o : Obj) : Prop := o.IsDictOf (sk w) kvs
noncomputable def kid (p : List (List Nat)) (q : List (List Nat) × Addr) : Option (Str × Value) := match q.1.getLast? with
  | some r => if q.1.dropLast = p then some (S r, .ref q.2) else none
  | none => none
noncomputable def kvsOf (N : Tr) (p : List (List Nat)) : List (Str × Value) := N.reverse.filterMap (kid p)
noncomputable def ownT (w : World) (M N : Tr) : Ow := N.map fun q => (q.2, isD w (kvsOf M q.1))
structure TrOk (N : Tr) : Prop where
  nd : (N.map (·.1)).Nodup
  cl : ∀ p r, p ++ [r] ∈ N.map (·.1) → p ∈ N.map (·.1)
  root : [] ∈ N.map (·.1)
  big : ∀ q ∈ N, 2 ≤ q.2
theorem kid_of {p : List (List Nat)} {r : List Nat} {a : Addr} : kid p (p ++ [r], a) = some (S r, .ref a) := by simp [kid]
theorem kid_some {p : List (List Nat)} {q : List (List Nat) × Addr} {x : Str × Value} (h : kid p q = some x) : ∃ r, q.1 = p ++ [r] ∧ x = (S r, .ref q.2) := by
  unfold kid at h
  split at h
  · rename_i r hr
    split at h
    · rename_i hd
      refine ⟨r, ?_, by cases h; rfl⟩
      obtain ⟨i, hi⟩ := List.getLast?_eq_some_iff.mp hr
      rw [hi] at hd ⊢
      simp at hd
      rw [hd]
    · cases h
  · cases h
theorem kvs_cons {q : List (List Nat) × Addr} {N : Tr} {p : List (List Nat)} : kvsOf (q :: N) p = kvsOf N p ++ (kid p q).toList := by
  unfold kvsOf
  rw [List.reverse_cons, List.filterMap_append]
  cases h : kid p q <;> simp [h]
theorem kvs_mem {N : Tr} {p : List (List Nat)} {x : Str × Value} : x ∈ kvsOf N p ↔ ∃ r a, (p ++ [r], a) ∈ N ∧ x = (S r, .ref a) := by
  unfold kvsOf
  rw [List.mem_filterMap]
  constructor
  · rintro ⟨q, hq, h⟩
    obtain ⟨r, e, rfl⟩ := kid_some h
    obtain ⟨q1, q2⟩ := q
    dsimp only at e
    subst e
    exact ⟨r, q2, List.mem_reverse.mp hq, rfl⟩
  · rintro ⟨r, a, hm, rfl⟩
    exact ⟨_, List.mem_reverse.mpr hm, kid_of⟩
theorem kvs_keys_nodup {N : Tr} (h : (N.map (·.1)).Nodup) (p : List (List Nat)) : ((kvsOf N p).map (·.1)).Nodup := by
  induction N with
  | nil => simp [kvsOf]
  | cons q N ih =>
    rw [List.map_cons, List.nodup_cons] at h
    rw [kvs_cons, List.map_append, List.nodup_append]
    refine ⟨ih h.2, by cases kid p q <;> simp, fun x hx y hy e => ?_⟩
    subst e
    cases hk : kid p q with
    | none => rw [hk] at hy; simp at hy
    | some z =>
      rw [hk] at hy
      obtain ⟨r, e1, e2⟩ := kid_some hk
      simp at hy
      obtain ⟨u, hu, e3⟩ := List.mem_map.mp hx
      obtain ⟨r', a', hm, e4⟩ := kvs_mem.mp hu
      rw [e2] at hy
      rw [e4] at e3
      dsimp only at hy e3
      have : r' = r := S_inj (e3.trans hy)
      subst this
      exact h.1 (by rw [e1]; exact List.mem_map_of_mem (f := fun q : List (List Nat) × Addr => q.1) hm)
theorem kvs_value {N : Tr} (h : (N.map (·.1)).Nodup) {p : List (List Nat)} {r : List Nat} {a : Addr} (hm : (p ++ [r], a) ∈ N) : valueAt (kvsOf N p) (S r) = some (.ref a) := by
  have : (S r, Value.ref a) ∈ kvsOf N p := kvs_mem.mpr ⟨r, a, hm, rfl⟩
  obtain ⟨i, hi⟩ := List.mem_iff_getElem?.mp this
  exact valueAt_of_get (kvs_keys_nodup h p) hi
theorem kvs_none {N : Tr} {p : List (List Nat)} {r : List Nat} (h : p ++ [r] ∉ N.map (·.1)) : valueAt (kvsOf N p) (S r) = none := by
  unfold valueAt
  rw [Option.map_eq_none_iff, List.find?_eq_none]
  intro x hx
  obtain ⟨r', a', hm, rfl⟩ := kvs_mem.mp hx
  simp only [decide_eq_true_eq]
  intro e
  have : r' = r := S_inj e
  subst this
  exact h (List.mem_map_of_mem (f := fun q : List (List Nat) × Addr => q.1) hm)
theorem kvs_leaf {N : Tr} (ok : TrOk N) {p : List (List Nat)} (h : p ∉ N.map (·.1)) : kvsOf N p = [] := by
  cases e : kvsOf N p with
  | nil => rfl
  | cons x xs =>
    have : x ∈ kvsOf N p := by rw [e]; exact .head _
    obtain ⟨r, a, hm, _⟩ := kvs_mem.mp this
    exact absurd (ok.cl p r (List.mem_map_of_mem (f := fun q : List (List Nat) × Addr => q.1) hm)) h
theorem kid_ne {p p' : List (List Nat)} {r : List Nat} {b : Addr} (h : p' ≠ p) : kid p' (p ++ [r], b) = none := by simp [kid, h.symm]
theorem stored_new {kvs : List (Str × Value)} {k : Str} {v : Value} (h : valueAt kvs k = none) : stored kvs k v = kvs ++ [(k, v)] := by
  unfold stored
  rw [if_neg]
  unfold valueAt at h
  rw [Option.map_eq_none_iff, List.find?_eq_none] at h
  rw [List.any_eq_true]
  rintro ⟨x, hx, e⟩
  exact h x hx e
theorem ownT_step {w : World} {N N1 N2 : Tr} {p : List (List Nat)} {r : List Nat} {a b : Addr} (ok : TrOk N) (hN : N = N1 ++ (p, a) :: N2) (hp : p ++ [r] ∉ N.map (·.1)) :
    (b, isD w []) :: (ownT w N N1 ++ (a, isD w (kvsOf N p ++ [(S r, .ref b)])) :: ownT w N N2) = ownT w ((p ++ [r], b) :: N) ((p ++ [r], b) :: N) := by
  have nd := ok.nd
  rw [hN, List.map_append, List.map_cons, List.nodup_append, List.nodup_cons] at nd
  obtain ⟨_, ⟨n2, _⟩, n3⟩ := nd
  have other : ∀ q : List (List Nat) × Addr, q.1 ≠ p → kvsOf ((p ++ [r], b) :: N) q.1 = kvsOf N q.1 := fun q h => by rw [kvs_cons, kid_ne h]; simp
  have e1 : ownT w ((p ++ [r], b) :: N) N1 = ownT w N N1 := List.map_congr_left fun q hq => by rw [other q fun e => n3 q.1 (List.mem_map_of_mem hq) p (.head _) e]
  have e2 : ownT w ((p ++ [r], b) :: N) N2 = ownT w N N2 := List.map_congr_left fun q hq => by rw [other q fun e => n2 (by have h : q.1 ∈ N2.map (·.1) := List.mem_map_of_mem hq; rw [e] at h; exact h)]
  have e3 : kvsOf ((p ++ [r], b) :: N) (p ++ [r]) = [] := by
    rw [kvs_cons, kvs_leaf ok hp, kid_ne (by intro e; have := congrArg List.length e; simp at this)]; rfl
  have e4 : kvsOf ((p ++ [r], b) :: N) p = kvsOf N p ++ [(S r, .ref b)] := by rw [kvs_cons, kid_of]; rfl
  show _ = (b, isD w (kvsOf ((p ++ [r], b) :: N) (p ++ [r]))) :: ownT w ((p ++ [r], b) :: N) N
  rw [e3]
  congr 1
  have : ownT w ((p ++ [r], b) :: N) N = ownT w ((p ++ [r], b) :: N) (N1 ++ (p, a) :: N2) := by rw [← hN]
  rw [this]
  unfold ownT at e1 e2 ⊢
  rw [List.map_append, List.map_cons, e1, e2, e4]
theorem TrOk.step {N : Tr} {p : List (List Nat)} {r : List Nat} {b : Addr} (ok : TrOk N) (hp : p ∈ N.map (·.1)) (hn : p ++ [r] ∉ N.map (·.1)) (hb : 2 ≤ b) : TrOk ((p ++ [r], b) :: N) := by
  refine ⟨List.nodup_cons.mpr ⟨hn, ok.nd⟩, fun p' r' h => ?_, .tail _ ok.root, fun q hq => ?_⟩
  · rcases List.mem_cons.mp h with h | h
    · have := List.append_inj' h rfl
      rw [this.1]
      exact .tail _ hp
    · exact .tail _ (ok.cl p' r' h)
  · rcases List.mem_cons.mp hq with rfl | hq
    · exact hb
    · exact ok.big q hq
section
variable {c : Cx} {B : Heap} {m : Lo} {own : Ow} {K : Flow → Heap → Lo → Ow → Prop} {rest : List Stmt}
theorem big_n {s : Shared} (F : Fm c B m own s) : 2 ≤ c.n := by
  obtain ⟨o, ho, _⟩ := (fn_rows c.w).get F.gg.k
  exact Nat.le_trans (Nat.le_of_lt (Nat.lt_of_le_of_lt (by decide) (Heap.lt_size ho))) F.gn
theorem dict_of {s : Shared} {a : Addr} {kvs : List (Str × Value)} (F : Fm c B m own s) (ha : (a, isD c.w kvs) ∈ own) : s.heap.DictOf (sk c.w) a kvs := Heap.dictOf_iff.mpr (F.ow _ ha)
theorem not_sys {a : Addr} (h : 2 ≤ a) : (a == sysModules) = false := by
  have : a ≠ 1 := fun e => by rw [e] at h; exact absurd h (by decide)
  simpa [sysModules] using this
theorem TV.notInD {l r : Expr} {pos : Pos} {a : Addr} {kvs : List (Str × Value)} {k : Str} (hl : SV c B m own l k) (hr : VV c B m own r (.ref a)) (ha : (a, isD c.w kvs) ∈ own) (h1 : 2 ≤ a) (hm : behindInMarks .NotIn r = false) : TV c B m own (.Compare l [.NotIn] [r] pos) (!(valueAt kvs k).isSome) :=
  TV.cmp hl (fun B1 v b1 ⟨t, ea⟩ => (hr.bs b1).mono fun B2 u b2 eu => by
    subst ea eu
    exact GV.still fun s Q E F q => wpAny_notIn_of (strKind_is _ _ _ _) (not_sys h1) (dict_of F ha).mapOf (q _ _ s.drawn rfl)) hm
theorem EV.itemD {value slice : Expr} {pos : Pos} {a : Addr} {kvs : List (Str × Value)} {k : Str} {v : Value} (hv : VV c B m own value (.ref a)) (ha : (a, isD c.w kvs) ∈ own) (hi : SV c B m own slice k) (hk : valueAt kvs k = some v)
    (hs : ∀ o a, subscripted slice false o a = operate [o, a] (getItem o a)) : VV c B m own (.Subscript value slice pos) v :=
  EV.sub hv fun B1 o b1 eo => (hi.bs b1).mono fun B2 u b2 ⟨t, eu⟩ => by
    subst eo eu
    exact GV.still fun s Q E F q => tail_any (dict_of F ha).typeIs slot_dict_getitem.lookup (wpAny_getItem_of (strKind_is _ _ _ _) (dict_of F ha).mapOf hk (q _ _ s.drawn rfl)) (hs _ _)
theorem XW.setNew {o i : Expr} {pos' pos p3 : Pos} {a : Addr} {pre post : Ow} {kvs : List (Str × Value)} {k : Str} (ho : VV c B m (pre ++ (a, isD c.w kvs) :: post) o (.ref a)) (hi : SV c B m (pre ++ (a, isD c.w kvs) :: post) i k) (hk : valueAt kvs k = none) (hz : kvs.length ≤ sizeLine)
    (h : ∀ b B', Bs c.n B B' → c.n ≤ b → 2 ≤ b → XW c B' m ((b, isD c.w []) :: (pre ++ (a, isD c.w (kvs ++ [(k, .ref b)])) :: post)) (execs rest c.env) K)
    (hs : swapsWith (.Dict [] [] p3) (some (.Subscript o i pos')) pos.line c.env = pure false) : XW c B m (pre ++ (a, isD c.w kvs) :: post) (execs (.Assign [.Subscript o i pos'] (.Dict [] [] p3) pos :: rest) c.env) K :=
  XW.cons ⟨fun s Q E F q => by
    with_reducible refine wpAny_Assign_Subscript (wpAny_Dict_empty ?_) hs
    have g : Grow s { s with heap := s.heap.push { cls := .type "dict", data := .dict #[] } } := ⟨fun b o e => Heap.get?_push_of_some _ e, by simp, rfl, rfl⟩
    obtain ⟨b1, F1⟩ := F.grow g F.tk
    have b1' := b1.low F.size
    have hb : (grown B s { s with heap := s.heap.push { cls := .type "dict", data := .dict #[] } }).get? s.heap.objs.size = some { cls := .type "dict", data := .dict #[] } := grown_new (Heap.get?_push_size _ rfl) (Nat.le_refl _)
    generalize grown B s { s with heap := s.heap.push { cls := .type "dict", data := .dict #[] } } = B1 at b1 F1 b1' hb
    with_reducible refine (ho.run B1 b1').run _ _ E F1 fun ov s2 B2 b2 F2 r2 => ?_
    subst r2
    with_reducible refine (hi.run B2 (b1'.trans b2)).run _ _ E F2 fun iv s3 B3 b3 F3 r3 => ?_
    obtain ⟨t, rfl⟩ := r3
    have hd := dict_of F3 mem_mid
    with_reducible refine wpAny_setItem_pairs (strKind_is _ _ _ _) hd (fun h' hd' hsb => ?_) hz
    rw [stored_new hk] at hd'
    obtain ⟨o', ho', hD⟩ := Heap.dictOf_iff.mp hd'
    have F4 := F3.upd (s' := { s3 with heap := h', toks := s3.toks + 1 }) (P := isD c.w kvs) mem_mid hsb ho' (Q := isD c.w (kvs ++ [(k, .ref s.heap.objs.size)])) hD rfl rfl (Nat.le_succ _)
    rw [setO_split F3.nd] at F4
    have bb := (b1'.trans b2).trans b3
    have hbn : B3.get? s.heap.objs.size = some { cls := .type "dict", data := .dict #[] } := b3.ext _ _ (b2.ext _ _ hb)
    have F5 := F4.take (P := isD c.w []) bb F.fresh hbn ⟨#[], 0, ⟨rfl, rfl, rfl⟩, rfl, fun _ he => by simp at he, Pairs.nil, List.nodup_nil⟩
    exact q .next _ _ m _ (less_bs bb F.fresh) F5 (h _ _ (less_bs bb F.fresh) F.size (Nat.le_trans (big_n F) F.size))⟩
theorem XW.setNew' {o i : Expr} {pos' pos p3 : Pos} {a : Addr} {pre post : Ow} {kvs : List (Str × Value)} {k : Str} (hown : own = pre ++ (a, isD c.w kvs) :: post) (ho : VV c B m own o (.ref a)) (hi : SV c B m own i k) (hk : valueAt kvs k = none) (hz : kvs.length ≤ sizeLine)
    (h : ∀ b B', Bs c.n B B' → c.n ≤ b → 2 ≤ b → XW c B' m ((b, isD c.w []) :: (pre ++ (a, isD c.w (kvs ++ [(k, .ref b)])) :: post)) (execs rest c.env) K)
    (hs : swapsWith (.Dict [] [] p3) (some (.Subscript o i pos')) pos.line c.env = pure false) : XW c B m own (execs (.Assign [.Subscript o i pos'] (.Dict [] [] p3) pos :: rest) c.env) K := by
  subst hown; exact XW.setNew ho hi hk hz h hs
end
theorem fn_step (w : World) : FnK w 229 (fdOf 47 .none lawM (.ref 228)) := ⟨⟨.type "function", none, #[], by kernel_rfl⟩, by kernel_rfl⟩
section
variable {c : Cx} {B : Heap} {m : Lo} {R : Ow}
theorem law_step {N : Tr} {p : List (List Nat)} {r : List Nat} {a : Addr} {t : Tok} (room : c.A.depth < recursionLimit) (ok : TrOk N) (hp : (p, a) ∈ N) (hz : N.length ≤ 100000) :
    GX c B m (ownT c.w N N ++ R) (call (.ref 229) [.ref a, .str (S r) t]) fun B' own' v => ∃ T', own' = T' ++ R ∧ ∃ N' b, T' = ownT c.w N' N' ∧ TrOk N' ∧ v = .ref b ∧ (p ++ [r], b) ∈ N' ∧ ((p ++ [r] ∈ N.map (·.1) ∧ N' = N) ∨ (p ++ [r] ∉ N.map (·.1) ∧ N' = (p ++ [r], b) :: N)) := by
  refine GX.fnX (binds := [kv "folder" (.ref a), kv "row" (.str (S r) t)]) (P := fun B' T' v => ∃ N' b, T' = ownT c.w N' N' ∧ TrOk N' ∧ v = .ref b ∧ (p ++ [r], b) ∈ N' ∧ ((p ++ [r] ∈ N.map (·.1) ∧ N' = N) ∨ (p ++ [r] ∉ N.map (·.1) ∧ N' = (p ++ [r], b) :: N))) (fn_step c.w) rfl room (fun s k => BindsTo.of_eq rfl) (by decide +kernel) (locs (by rfl)) rfl rfl rfl fun s => ?_
  have hk : ∀ {N : Tr}, (p, a) ∈ N → (a, isD c.w (kvsOf N p)) ∈ ownT c.w N N := fun h => List.mem_map.mpr ⟨(p, a), h, rfl⟩
  refine XW.ite (TV.notInD (kvs := kvsOf N p) (VV.str (VV.loc rfl rfl rfl)) (VV.loc rfl rfl rfl) (hk hp) (ok.big _ hp) rfl) (fun hx B1 b1 => ?_) fun hx B1 b1 => XW.nil ?_
  · have hn : p ++ [r] ∉ N.map (·.1) := fun h => by
      obtain ⟨q, hq, e⟩ := List.mem_map.mp h
      obtain ⟨q1, q2⟩ := q
      dsimp only at e
      subst e
      rw [kvs_value ok.nd hq] at hx
      simp at hx
    obtain ⟨N1, N2, hN⟩ := List.append_of_mem hp
    have e0 : ownT c.w N N = ownT c.w N N1 ++ (a, isD c.w (kvsOf N p)) :: ownT c.w N N2 := by
      have : ownT c.w N N = ownT c.w N (N1 ++ (p, a) :: N2) := by rw [← hN]
      rw [this]; unfold ownT; simp
    have hkl : (kvsOf N p).length ≤ N.length := by
      unfold kvsOf
      exact Nat.le_trans (List.length_filterMap_le _ _) (by simp)
    refine XW.setNew' e0 (VV.loc rfl rfl rfl) (VV.str (VV.loc rfl rfl rfl)) (kvs_none hn) (by unfold sizeLine; omega) (fun b B2 b2 hb1 hb2 => ?_) rfl
    rw [ownT_step ok hN hn]
    have ok' := ok.step (r := r) (List.mem_map_of_mem (f := fun q : List (List Nat) × Addr => q.1) hp) hn hb2
    refine XW.nil (XW.ret ((EV.itemD (c := subX c (fdOf 47 .none lawM (.ref 228)) 229 s fun a => a ∈ (ownT c.w N N).map (·.1)) (VV.loc rfl rfl rfl) (hk (.tail _ hp)) (VV.str (VV.loc rfl rfl rfl)) (kvs_value ok'.nd (.head _)) fun _ _ => rfl).mono fun B3 v b3 ev => ?_))
    exact ⟨_, b, rfl, ok', ev, .head _, .inr ⟨hn, rfl⟩⟩
  · have hm : p ++ [r] ∈ N.map (·.1) := Classical.byContradiction fun h => by
      rw [kvs_none h] at hx
      simp at hx
    obtain ⟨⟨q1, b⟩, hq, e⟩ := List.mem_map.mp hm
    dsimp only at e
    subst e
    refine XW.ret ((EV.itemD (c := subX c (fdOf 47 .none lawM (.ref 228)) 229 s fun a => a ∈ (ownT c.w N N).map (·.1)) (VV.loc rfl rfl rfl) (hk hp) (VV.str (VV.loc rfl rfl rfl)) (kvs_value ok.nd hq) fun _ _ => rfl).mono fun B3 v b3 ev => ?_)
    exact ⟨N, b, rfl, ok, ev, hq, .inl ⟨hm, rfl⟩⟩
end
end Mine

end
section
open PySem PySem.W PyProof.Rows
set_option Elab.async false
set_option autoImplicit false
set_option linter.unusedVariables false
set_option maxRecDepth 100000
namespace Mine
theorem bl_next (w : World) : Bl w "next" (.builtin "next") := ⟨by kernel_rfl, by boot_by_name⟩
section
variable {c : Cx} {B : Heap} {m : Lo} {own : Ow} {K : Flow → Heap → Lo → Ow → Prop} {rest : List Stmt}
theorem gv_iter {l : Addr} {vs : List Value} (hl : Ls B l vs) : GV c B m own (call (.builtin "iter") [.ref l]) fun B1 v => ∃ it o, v = .ref it ∧ B.get? it = none ∧ B1.get? it = some o ∧ isLI l 0 o :=
  GV.grow fun s Q E F q => by
    refine Calls.call_function_entry (by kernel_rfl) (by decide +kernel) PySem.W.kdk_entry_iter (PySem.W.kdk_args_iter _) ?_
    show wpAny _ _ (pyIter (.ref l) >>= fun v => ret v) _ _ _
    refine wpAny_bind (wpAny_pyIter_list (hl.ext F.frz).list ?_)
    refine wpAny_pure ⟨_, rfl, ?_⟩
    exact q _ _ ⟨fun b o e => Heap.get?_push_of_some _ e, by simp, rfl, rfl⟩ fun B' b x hn => ⟨_, _, rfl, F.fresh, hn _ _ (Nat.le_refl _) (Heap.get?_push_size _ rfl), rfl, rfl⟩
theorem gx_next {it l : Addr} {i : Nat} {vs : List Value} {v : Value} (hl : Ls B l vs) (hv : vs[i]? = some v) : GX c B m ((it, isLI l i) :: own) (call (.builtin "next") [.ref it]) fun B' own' r => B' = B ∧ own' = (it, isLI l (i + 1)) :: own ∧ r = v :=
  ⟨fun s Q E F q => by
    obtain ⟨o, ho, hc, hd⟩ := F.ow _ (.head _)
    have hit : s.heap.IsListIter it l i := ⟨o, ho, hc, hd⟩
    obtain ⟨ol, hol, n, rfl⟩ := hl.ext F.frz
    refine Calls.call_function_entry (by kernel_rfl) (by decide +kernel) PySem.W.kdk_entry_next (PySem.W.kdk_args_next _) ?_
    show wpAny _ _ (specialOf (.ref it) "__next__" >>= _) _ _ _
    refine wpAny_bind (wpAny_specialOf hit.typeIs slot_listiter_next.lookup ?_)
    refine wpAny_bind (wpAny_callSpecial?_slot (name := Str.ofString "__next__") hit.typeIs slot_listiter_next (wpAny_call_entry slot_listiter_next hit.typeIs entry_listiter_next ?_ (args_listiter_next _)))
    show wpAny _ _ (field (.ref it) 0 >>= _) _ _ s
    refine wpAny_bind (wpAny_field ho hd (x := .ref l) rfl ?_)
    show wpAny _ _ (if (Value.ref l == Value.none) = true then _ else _) _ _ s
    rw [if_neg (show ¬ ((Value.ref l == Value.none) = true) from Bool.false_ne_true)]
    show wpAny _ _ (field (.ref it) 1 >>= _) _ _ s
    refine wpAny_bind (wpAny_field ho hd (x := .int i 0) rfl ?_)
    show wpAny _ _ (seqItems? (.ref l) >>= _) _ _ s
    refine wpAny_bind (wpAny_seqItems hol rfl ?_)
    have hx : vs.toArray[i]? = some v := by simpa using hv
    simp only [Int.toNat_natCast, hx]
    refine wpAny_bind (wpAny_setField ho hd (by simp) (wpAny_pure ⟨v, rfl, wpAny_pure ⟨v, rfl, ?_⟩⟩))
    have F' := F.step (s' := { s with heap := s.heap.update it (Obj.mapFields (·.setIfInBounds 1 (rawInt ((i : Int) + 1)))) }) (Q := isLI l (i + 1)) (Heap.SameBut.update ..) (Heap.get?_update_self _ ho (Obj.isFreed_of_fields (Obj.data_mapFields hd _))) ⟨(Obj.cls_mapFields ..).trans hc, by rw [Obj.data_mapFields hd]; simp [rawInt]⟩ rfl rfl (Nat.le_refl _)
    exact q v _ B _ (Bs.refl _ _) F' ⟨rfl, rfl, rfl⟩⟩
/-- a for over an own iterator of a list -/
theorem XW.forIt {x : Str} {p : Pos} {iter : Expr} {body : List Stmt} {pos : Pos} {it l : Addr} {i0 : Nat} {vs : List Value} (I : Nat → Heap → Lo → Ow → Prop) (hh : c.A.handled = none) (he : VV c B m ((it, isLI l i0) :: own) iter (.ref it)) (hl : Ls B l vs) (hi0 : i0 ≤ vs.length) (h0 : ∀ B1, Bs c.n B B1 → I i0 B1 m own)
    (turn : ∀ i v B0 B2 m0 own1 q, vs[i]? = some v → Bs c.n B B0 → Bs c.n B0 B2 → I i B0 m0 own1 → XW c B2 (put m0 x v) (q :: own1) (execs body c.env) (forK c rest K q (I (i + 1))))
    (fin : ∀ B2 m1 own1, Bs c.n B B2 → I vs.length B2 m1 own1 → XW c B2 m1 own1 (execs rest c.env) K) (hx : c.env.kindOf x = some .local) (hk : c.env.scope.kind = .function)
    (hs : ∀ x, foldedSetIterable iter c.env x = pure x) : XW c B m ((it, isLI l i0) :: own) (execs (.For (.Name x p) iter body [] pos :: rest) c.env) K :=
  XW.cons ⟨fun s Q E F q => by
    with_reducible refine wpAny_For ((he.run B (Bs.refl _ _)).run s _ E F fun v s1 B1 b1 F1 r1 => ?_) hs
    subst r1
    obtain ⟨o1, ho1, hc1, hd1⟩ := F1.ow _ (.head _)
    have hit1 : s1.heap.IsListIter it l i0 := ⟨o1, ho1, hc1, hd1⟩
    with_reducible refine wpAny_pyIter_listiter hit1 ?_
    with_reducible refine codeAny_forLoop_any (fun n s => ∃ i Bi m1 own1, n + i = vs.length ∧ Bs c.n B1 Bi ∧ Fm c Bi m1 ((it, isLI l i) :: own1) s ∧ I i Bi m1 own1) (fun n s hI => ?_) (vs.length - i0) ⟨i0, _, m, own, by omega, Bs.refl _ _, F1, h0 _ b1⟩
    obtain ⟨i, Bi, mi, owni, hni, bi', Fi, hIi⟩ := hI
    have bi := b1.trans bi'
    with_reducible refine (NX.list (x := x) (p := p) hh (hl.ext b1.ext) i).run Bi mi owni s _ _ bi' Fi (fun hm v s' hlet => ?_) (fun hm s' F' => ?_)
    · have hlt : i < vs.length := of_decide_eq_true hm
      show wpAny _ _ _ _ _ _
      with_reducible refine hlet _ _ fun s'' B'' b'' hV F'' => ?_
      with_reducible refine (TG.name (p := p) (V := fun _ v => vs[i]? = some v) hx hk).run B'' mi _ v s'' _ _ hV F'' fun s3 B3 m3 b3 hU F3 => ?_
      obtain ⟨v', hv', rfl⟩ := hU
      with_reducible refine (turn i v' Bi B3 mi owni _ hv' bi (b''.trans b3) hIi).run s3 _ _ F3 fun f s4 B4 m4 own4 b4 F4 r4 => ?_
      obtain ⟨own5, rfl, r5⟩ := r4
      have b4' := b''.trans (b3.trans b4)
      have bb := bi.trans b4'
      cases f with
      | next => exact ⟨n - 1, by omega, i + 1, B4, m4, own5, by omega, bi'.trans b4', F4, r5⟩
      | cont => exact ⟨n - 1, by omega, i + 1, B4, m4, own5, by omega, bi'.trans b4', F4, r5⟩
      | brk => exact q .next s4 B4 m4 own5 bb F4.drop r5
      | ret v => exact q (.ret v) s4 B4 m4 own5 bb F4.drop r5
    · have hlt : ¬ i < vs.length := of_decide_eq_false hm
      have hge : vs.length ≤ i := Nat.not_lt.mp hlt
      have : i = vs.length := by omega
      subst this
      show wpAny _ _ _ _ _ _
      with_reducible refine wpAny_execs_nil ?_
      exact q .next s' Bi mi owni bi F' (fin Bi mi owni bi hIi)⟩
theorem Fm.perm {own' : Ow} {s : Shared} (F : Fm c B m own s) (h : own.Perm own') : Fm c B m own' s :=
  ⟨F.gg, F.gx, F.gn, F.keep, F.size, F.frz, F.ns, fun p hp => F.ow p (h.mem_iff.mpr hp), F.bL, F.lL, fun p hp => F.bown p (h.mem_iff.mpr hp), (h.map _).nodup_iff.mp F.nd, F.gens, F.os, F.tk⟩
theorem GX.rot {T R : Ow} {t : Sem Value} {P : Heap → Ow → Value → Prop} (h : GX c B m (T ++ R) t fun B' own' v => ∃ T', own' = T' ++ R ∧ P B' T' v) : GX c B m (R ++ T) t fun B' own' v => ∃ T', own' = R ++ T' ∧ P B' T' v :=
  ⟨fun s Q E F q => by
    with_reducible refine h.run s Q E (F.perm List.perm_append_comm) fun v s' B' own' b F' r => ?_
    obtain ⟨T', rfl, hP⟩ := r
    exact q v s' B' _ b (F'.perm List.perm_append_comm) ⟨T', rfl, hP⟩⟩
theorem TV.isSelf {l r : Expr} {pos : Pos} {a : Addr} (hl : VV c B m own l (.ref a)) (hr : VV c B m own r (.ref a)) : TV c B m own (.Compare l [.Is] [r] pos) true :=
  TV.cmp hl (fun B1 v b1 ea => (hr.bs b1).mono fun B2 u b2 eu => by subst ea eu; exact GV.still fun s Q E F q => by with_reducible exact wpAny_is_ref_self (q _ s.toks s.drawn rfl)) (noMarks (by decide))
theorem TV.isOther {l r : Expr} {pos : Pos} {a b : Addr} (hl : VV c B m own l (.ref a)) (hr : VV c B m own r (.ref b)) (hab : a ≠ b) (ha : ∀ s B', Fm c B' m own s → ∃ o, s.heap.get? a = some o ∧ o.cls ≠ .type "tuple") (hb : ∀ s B', Bs c.n B B' → Fm c B' m own s → ∃ o, s.heap.get? b = some o) : TV c B m own (.Compare l [.Is] [r] pos) false :=
  TV.cmp hl (fun B1 v b1 ea => (hr.bs b1).mono fun B2 u b2 eu => by
    subst ea eu
    exact GV.still fun s Q E F q => by
      obtain ⟨o, ho, h1⟩ := ha s _ F
      obtain ⟨o2, ho2⟩ := hb s _ (b1.trans b2) F
      with_reducible exact wpAny_is_ref_other hab ho ho2 h1 (q _ s.toks s.drawn rfl)) (noMarks (by decide))
end
noncomputable abbrev ftM : Value := .str "cpy313.functools" 1795
theorem fn_reduce (w : World) : FnK w 81 (fdOf 24 (.ref 74) ftM (.ref 80)) := ⟨⟨.type "function", none, #[], by kernel_rfl⟩, by kernel_rfl⟩
theorem g_miss (w : World) : nsIn (KK w) mainGlobals "_initial_missing" = some (some (.ref 73)) := by kernel_rfl
theorem tup74 (w : World) : ∃ oc od n sl, (KK w).lookup 74 = some ⟨oc, od, .seq #[.ref 73] n, sl⟩ := by
  have h : (match (KK w).lookup 74 with | some ⟨_, _, .seq xs _, _⟩ => (match xs with | ⟨[.ref 73]⟩ => true | _ => false) | _ => false) = true := by kernel_rfl
  split at h
  · rename_i oc od xs n sl e
    split at h
    · exact ⟨oc, od, n, sl, e⟩
    · cases h
  · cases h
theorem obj73 (w : World) : ∃ o, (KK w).lookup 73 = some o := by
  have h : ((KK w).lookup 73).isSome = true := by kernel_rfl
  exact Option.isSome_iff_exists.mp h
/-- the tree with one more way -/
inductive Grown (N : Tr) : List (List Nat) → List (List Nat) → Tr → Addr → Prop
  | nil {p : List (List Nat)} {a : Addr} : (p, a) ∈ N → Grown N p [] N a
  | snoc {p rs : List (List Nat)} {r : List Nat} {N1 N' : Tr} {b : Addr} {a : Addr} : Grown N p rs N1 a → (p ++ rs ++ [r], b) ∈ N' → ((p ++ rs ++ [r] ∈ N1.map (·.1) ∧ N' = N1) ∨ (p ++ rs ++ [r] ∉ N1.map (·.1) ∧ N' = (p ++ rs ++ [r], b) :: N1)) → Grown N p (rs ++ [r]) N' b
theorem Grown.len {N : Tr} {p rs : List (List Nat)} {N' : Tr} {a : Addr} (h : Grown N p rs N' a) : N'.length ≤ N.length + rs.length := by
  induction h with
  | nil => simp
  | snoc h1 h2 h3 ih =>
    rcases h3 with ⟨_, rfl⟩ | ⟨_, rfl⟩
    · simp; omega
    · simp; omega
theorem Grown.at {N : Tr} {p rs : List (List Nat)} {N' : Tr} {a : Addr} (h : Grown N p rs N' a) : (p ++ rs, a) ∈ N' := by
  cases h with
  | nil h => simpa using h
  | snoc h1 h2 h3 => rw [← List.append_assoc]; exact h2
section
variable {c : Cx} {B : Heap} {m : Lo} {R : Ow}
theorem reduce_step {N : Tr} {rows : List (List Nat)} {a l : Addr} (room : c.A.depth + 1 < recursionLimit) (hh : c.A.handled = none) (ok : TrOk N) (hp : ([], a) ∈ N) (hl : SL B l (rows.map S)) (ha : 249 ≤ a) (hz : N.length + rows.length ≤ 100000) :
    GX c B m (ownT c.w N N ++ R) (call (.ref 81) [.ref 229, .ref l, .ref a]) fun B' own' v => ∃ T', own' = T' ++ R ∧ ∃ N' b, T' = ownT c.w N' N' ∧ TrOk N' ∧ v = .ref b ∧ Grown N [] rows N' b := by
  refine GX.fnX (binds := [kv "function" (.ref 229), kv "sequence" (.ref l), kv "initial" (.ref a)]) (P := fun B' T' v => ∃ N' b, T' = ownT c.w N' N' ∧ TrOk N' ∧ v = .ref b ∧ Grown N [] rows N' b) (fn_reduce c.w) rfl (by omega) (fun s k => let ⟨oc, od, n, sl, e⟩ := tup74 c.w; BindsTo.of_defaults rfl (k _ _ e) rfl rfl rfl) (by decide +kernel) (locs (by rfl)) rfl rfl rfl fun s => ?_
  obtain ⟨L, hL, hLe⟩ := hl
  have hLl : L.length = rows.length := by have := congrArg List.length hLe; simpa using this
  refine XW.assignOwn ((EV.callB (R := fun B1 v => ∃ it o, v = .ref it ∧ B.get? it = none ∧ B1.get? it = some o ∧ isLI l 0 o) (VV.bl (bl_iter _) rfl rfl rfl rfl) (AV.cons (VV.loc rfl rfl rfl) (fun B1 v b1 ev => AV.nil fun B2 b2 => by
    subst ev
    exact (gv_iter (hL.ext (b1.trans b2).ext)).mono fun B3 v b3 ⟨it, o, h1, h2, h3⟩ => ⟨it, o, h1, bs_none (b1.trans b2) h2, h3⟩) fun _ => rfl) (fun _ => rfl) fun _ => rfl).mono fun B1 v b1 r => ?_) rfl rfl rfl
  obtain ⟨it, o, rfl, h1, h2, h3⟩ := r
  refine ⟨it, isLI l 0, o, rfl, h1, h2, h3, fun hn b1' => ?_⟩
  generalize less B1 it = B1 at b1'
  have hL1 := hL.ext b1'.ext
  obtain ⟨o73, h73⟩ := obj73 c.w
  refine XW.ite (TV.isOther (VV.loc rfl rfl rfl) (VV.glob (g_miss _) rfl rfl rfl) (fun e => by rw [e] at ha; exact absurd ha (by decide)) (fun s B' F => ?_) fun s B' b F => ⟨o73, F.frz _ _ (F.gl.k _ _ h73)⟩) (fun hx => nomatch hx) fun _ B2 b2 => ?_
  · obtain ⟨o, ho, es, ep, hx, _⟩ := F.ow (a, isD c.w (kvsOf N [])) (.tail _ (List.mem_map.mpr ⟨([], a), hp, rfl⟩))
    exact ⟨o, ho, by rw [hx.1]; decide⟩
  refine XW.assign ((VV.loc rfl rfl rfl).mono fun B3 v b3 ev => ?_) rfl rfl rfl
  subst ev
  refine XW.nil ?_
  refine XW.forIt (fun i B m own => m.lookup (Str.ofString "function") = some (.ref 229) ∧ ∃ N' b, own = ownT c.w N' N' ∧ TrOk N' ∧ m.lookup (Str.ofString "value") = some (.ref b) ∧ Grown N [] (rows.take i) N' b) hh (VV.loc rfl rfl rfl) (hL1.ext (b2.trans b3).ext) (Nat.zero_le _) (fun B4 b4 => ⟨rfl, N, a, rfl, ok, rfl, .nil hp⟩) ?_ ?_ rfl rfl fun _ => rfl
  · rintro i v B4 B5 m0 own1 q hv b4 b5 ⟨g1, N', b, rfl, ok', g2, gr⟩
    rw [strValues, List.getElem?_map] at hv
    obtain ⟨⟨x, tx⟩, hpx, rfl⟩ := Option.map_eq_some_iff.mp hv
    have hxe : (L.map (·.1))[i]? = some x := by rw [List.getElem?_map, hpx]; rfl
    rw [hLe, List.getElem?_map] at hxe
    obtain ⟨r, hr, rfl⟩ := Option.map_eq_some_iff.mp hxe
    have hlen := gr.len
    have hil : i < rows.length := (List.getElem?_eq_some_iff.mp hr).1
    have hat := gr.at
    rw [List.nil_append] at hat
    refine XW.assignX ((EX.callF (VV.loc (lk_other g1) rfl rfl) (fn_step _) (AV.cons (VV.loc (lk_other g2) rfl rfl) (fun B6 v b6 ev => AV.cons (VV.loc lk_same rfl rfl) (fun B7 u b7 eu => AV.nil fun B8 b8 => by
      subst ev eu
      exact GX.rot (R := [q]) (law_step (c := subX c (fdOf 24 (.ref 74) ftM (.ref 80)) 81 s fun a => a ∈ (ownT c.w N N).map (·.1)) (show c.A.depth + 1 < recursionLimit from room) ok' hat (by simp at hlen; omega))) fun _ => rfl) fun _ => rfl) fun _ => rfl).mono fun B6 own' v b6 r => ?_) rfl rfl rfl
    obtain ⟨T', rfl, N2, b2', rfl, ok2, rfl, hm2, hor⟩ := r
    refine XW.nil ⟨_, rfl, lk_other (lk_other g1), N2, b2', rfl, ok2, lk_same, ?_⟩
    have : rows.take (i + 1) = rows.take i ++ [r] := by rw [List.take_add_one, hr]; rfl
    rw [this]
    exact .snoc gr hm2 hor
  · rintro B4 m1 own1 b4 ⟨g1, N', b, rfl, ok', g2, gr⟩
    rw [show (strValues L).length = rows.length by simp [strValues, hLl], List.take_length] at gr
    exact XW.ret ((VV.loc g2 rfl rfl).mono fun B5 v b5 ev => ⟨N', b, rfl, ok', ev, gr⟩)
end
end Mine

end
section
open PySem PySem.W PyProof.Rows
set_option Elab.async false
set_option autoImplicit false
set_option linter.unusedVariables false
set_option maxRecDepth 100000
namespace Mine
section
variable {c : Cx} {B : Heap} {m : Lo} {own : Ow} {K : Flow → Heap → Lo → Ow → Prop} {rest : List Stmt}
theorem EX.callB {x : Str} {p pos : Pos} {e : Expr} {rest : List Expr} {id : String} {R : Heap → Ow → Value → Prop} (hx : VV c B m own (.Name x p) (.builtin id))
    (h : AV c B m own pos (e :: rest) fun B' vs => GX c B' m own (call (.builtin id) vs) R) (hs : ∀ env, starEach (e :: rest) env = (false, eval e env) :: starEach rest env) (hp : ∀ env, (backTo pos (starEach rest env)).any (·.1) = false) : EX c B m own (.Call (.Name x p) (e :: rest) [] pos) R :=
  ⟨fun B' b => ⟨fun s Q E F q => by
    with_reducible refine Call_ ((hx.run B' b).run s _ E F fun v s1 B1 b1 F1 r1 => ?_) rfl
    subst r1
    with_reducible refine callWith_builtin1 ((h.run B1 (b.trans b1)).run s1 _ E F1 fun vs s2 B2 b2 F2 r2 => r2.run s2 Q E F2 fun v s3 B3 own3 b3 F3 r3 => q v s3 B3 own3 (b1.trans (b2.trans b3)) F3 r3) (hs _) (hp _)⟩⟩
theorem joinOf_len (a b : Str) : (joinOf a b).length ≤ a.length + b.length + 1 := by
  unfold joinOf
  split
  · omega
  · split
    · rw [PySem.Str.length_append]; omega
    · rw [PySem.Str.length_append, PySem.Str.length_append]; show a.length + (1 + b.length) ≤ _; omega
theorem reduce_join {x0 : Str} {xs : List Str} {l : Addr} (room : c.A.depth + 2 < recursionLimit) (hh : c.A.handled = none) (hl : SL B l (x0 :: xs)) (h0 : x0.length ≤ 100) (hx : ∀ x ∈ xs, x.length ≤ 100) (hn : xs.length ≤ 100) :
    GV c B m own (call (.ref 81) [.ref 175, .ref l]) fun _ v => ∃ t, v = .str (xs.foldl joinOf x0) t := by
  refine GV.fn (binds := [kv "function" (.ref 175), kv "sequence" (.ref l), kv "initial" (.ref 73)]) (fn_reduce c.w) rfl (by omega) (fun s k => let ⟨oc, od, n, sl, e⟩ := tup74 c.w; BindsTo.of_defaults rfl (k _ _ e) rfl rfl rfl) (by decide +kernel) (locs (by rfl)) rfl rfl rfl fun s => ?_
  have room' : (sub c (fdOf 24 (.ref 74) ftM (.ref 80)) 81 s).A.depth + 1 < recursionLimit := by show c.A.depth + 1 + 1 < recursionLimit; omega
  obtain ⟨L, hL, hLe⟩ := hl
  cases L with
  | nil => simp at hLe
  | cons p0 L =>
  obtain ⟨y0, t0⟩ := p0
  simp only [List.map_cons, List.cons.injEq] at hLe
  obtain ⟨rfl, hLe⟩ := hLe
  have hLl : L.length = xs.length := by have := congrArg List.length hLe; simpa using this
  refine XW.assignOwn ((EV.callB (R := fun B1 v => ∃ it o, v = .ref it ∧ B.get? it = none ∧ B1.get? it = some o ∧ isLI l 0 o) (VV.bl (bl_iter _) rfl rfl rfl rfl) (AV.cons (VV.loc rfl rfl rfl) (fun B1 v b1 ev => AV.nil fun B2 b2 => by
    subst ev
    exact (gv_iter (hL.ext (b1.trans b2).ext)).mono fun B3 v b3 ⟨it, o, h1, h2, h3⟩ => ⟨it, o, h1, bs_none (b1.trans b2) h2, h3⟩) fun _ => rfl) (fun _ => rfl) fun _ => rfl).mono fun B1 v b1 r => ?_) rfl rfl rfl
  obtain ⟨it, o, rfl, h1, h2, h3⟩ := r
  refine ⟨it, isLI l 0, o, rfl, h1, h2, h3, fun hn' b1' => ?_⟩
  generalize less B1 it = B1 at b1'
  have hL1 := hL.ext b1'.ext
  refine XW.ite (TV.isSelf (VV.loc rfl rfl rfl) (VV.glob (g_miss _) rfl rfl rfl)) (fun _ B2 b2 => ?_) fun hx => nomatch hx
  refine XW.tryE (XW.assignX ((EX.callB (VV.bl (bl_next _) rfl rfl rfl rfl) (AV.cons (VV.loc rfl rfl rfl) (fun B3 v b3 ev => AV.nil fun B4 b4 => by
    subst ev
    exact (gx_next (i := 0) (v := .str y0 t0) (hL1.ext (b2.trans (b3.trans b4)).ext) rfl).mono fun B5 own' v b5 r => r.2) fun _ => rfl) (fun _ => rfl) fun _ => rfl).mono fun B3 own' v b3 r => ?_) rfl rfl rfl)
  obtain ⟨rfl, rfl⟩ := r
  refine XW.nil (XW.nil ?_)
  refine XW.forIt (fun i B m own => m.lookup (Str.ofString "function") = some (.ref 175) ∧ own = [] ∧ 1 ≤ i ∧ ∃ t, m.lookup (Str.ofString "value") = some (.str ((xs.take (i - 1)).foldl joinOf y0) t) ∧ ((xs.take (i - 1)).foldl joinOf y0).length ≤ 100 + 101 * (i - 1)) hh (VV.loc rfl rfl rfl) (hL1.ext (b2.trans b3).ext) (by simp [strValues]) (fun B4 b4 => ⟨rfl, rfl, Nat.le_refl _, t0, rfl, h0⟩) ?_ ?_ rfl rfl fun _ => rfl
  · rintro i v B4 B5 m0 own1 q hv b4 b5 ⟨g1, rfl, hi1, t, g2, hle⟩
    obtain ⟨j, rfl⟩ : ∃ j, i = j + 1 := ⟨i - 1, by omega⟩
    rw [Nat.add_sub_cancel] at g2 hle
    rw [strValues, List.getElem?_map] at hv
    obtain ⟨⟨x, tx⟩, hpx, rfl⟩ := Option.map_eq_some_iff.mp hv
    have hpx : L[j]? = some (x, tx) := hpx
    have hxe : (L.map (·.1))[j]? = some x := by rw [List.getElem?_map, hpx]; rfl
    rw [hLe] at hxe
    have hxl := hx x (List.mem_of_getElem? hxe)
    have hjl : j < xs.length := (List.getElem?_eq_some_iff.mp hxe).1
    have htk : xs.take (j + 1) = xs.take j ++ [x] := by rw [List.take_add_one, hxe]; rfl
    refine XW.assign ((EV.callF (VV.loc (lk_other g1) rfl rfl) (fn_join _) (AV.cons (VV.loc (lk_other g2) rfl rfl) (fun B6 v b6 ev => AV.cons (VV.loc lk_same rfl rfl) (fun B7 u b7 eu => AV.nil fun B8 b8 => by
      subst ev eu
      exact p_join room' hh (Nat.le_trans hle (by omega)) (Nat.le_trans hxl (by omega))) fun _ => rfl) fun _ => rfl) fun _ => rfl).mono fun B6 v b6 r => ?_) rfl rfl rfl
    obtain ⟨t6, rfl⟩ := r
    refine XW.nil ⟨_, rfl, lk_other (lk_other g1), rfl, by omega, t6, ?_, ?_⟩
    · rw [Nat.add_sub_cancel, htk, List.foldl_append]; exact lk_same
    · rw [Nat.add_sub_cancel, htk, List.foldl_append]
      have := joinOf_len ((xs.take j).foldl joinOf y0) x
      show (joinOf ((xs.take j).foldl joinOf y0) x).length ≤ _
      omega
  · rintro B4 m1 own1 b4 ⟨g1, rfl, _, t, g2, hle⟩
    rw [show (strValues ((y0, t0) :: L)).length - 1 = xs.length by simp [strValues, hLl], List.take_length] at g2
    exact XW.ret ((VV.loc g2 rfl rfl).mono fun B5 v b5 ev => ⟨t, ev⟩)
end
end Mine

end
section
open PySem PySem.W PyProof.Rows
set_option Elab.async false
set_option autoImplicit false
set_option linter.unusedVariables false
set_option maxRecDepth 100000
namespace Mine
/-! a tree that stays, read -/
noncomputable def TB (w : World) (h : Heap) (N : Tr) : Prop := ∀ q ∈ N, ∃ o, h.get? q.2 = some o ∧ isD w (kvsOf N q.1) o
theorem TB.ext {w : World} {h h' : Heap} {N : Tr} (x : TB w h N) (e : Ext h h') : TB w h' N := fun q hq => let ⟨o, ho, r⟩ := x q hq; ⟨o, e _ _ ho, r⟩
noncomputable def kidR (p : List (List Nat)) (q : List (List Nat) × Addr) : Option (List Nat) := match q.1.getLast? with
  | some r => if q.1.dropLast = p then some r else none
  | none => none
noncomputable def kidsOf (N : Tr) (p : List (List Nat)) : List (List Nat) := N.reverse.filterMap (kidR p)
theorem kvs_kids (N : Tr) (p : List (List Nat)) : (kvsOf N p).map (·.1) = (kidsOf N p).map S := by
  unfold kvsOf kidsOf
  rw [List.map_filterMap, List.map_filterMap]
  congr 1
  funext q
  unfold kid kidR
  cases q.1.getLast? with
  | none => rfl
  | some r => dsimp only; split <;> rfl
theorem kids_mem {N : Tr} {p : List (List Nat)} {r : List Nat} : r ∈ kidsOf N p ↔ p ++ [r] ∈ N.map (·.1) := by
  have h1 : S r ∈ (kidsOf N p).map S ↔ r ∈ kidsOf N p := ⟨fun h => by obtain ⟨x, hx, e⟩ := List.mem_map.mp h; rw [← S_inj e]; exact hx, fun h => List.mem_map_of_mem h⟩
  rw [← h1, ← kvs_kids]
  constructor
  · intro h
    obtain ⟨x, hx, e⟩ := List.mem_map.mp h
    obtain ⟨r', a, hm, rfl⟩ := kvs_mem.mp hx
    have : r' = r := S_inj e
    subst this
    exact List.mem_map_of_mem (f := fun q : List (List Nat) × Addr => q.1) hm
  · intro h
    obtain ⟨⟨q1, a⟩, hq, e⟩ := List.mem_map.mp h
    dsimp only at e
    subst e
    exact List.mem_map.mpr ⟨(S r, .ref a), kvs_mem.mpr ⟨r, a, hq, rfl⟩, rfl⟩
theorem nodup_of_map {α β : Type} {f : α → β} : ∀ {l : List α}, (l.map f).Nodup → l.Nodup
  | [], _ => List.nodup_nil
  | x :: l, h => by
    rw [List.map_cons, List.nodup_cons] at h
    exact List.nodup_cons.mpr ⟨fun hm => h.1 (List.mem_map_of_mem hm), nodup_of_map h.2⟩
theorem kids_nodup {N : Tr} (h : (N.map (·.1)).Nodup) (p : List (List Nat)) : (kidsOf N p).Nodup := by
  have := kvs_keys_nodup h p
  rw [kvs_kids] at this
  exact nodup_of_map this
noncomputable def dfs (N : Tr) : Nat → List (List Nat) → List (List (List Nat))
  | 0, _ => []
  | f + 1, p => (kidsOf N p).flatMap fun r => (p ++ [r]) :: dfs N f (p ++ [r])
theorem dfs_mem {N : Tr} : ∀ {f : Nat} {p q : List (List Nat)}, q ∈ dfs N f p → q ∈ N.map (·.1) ∧ ∃ s, s ≠ [] ∧ q = p ++ s
  | 0, _, _, h => by simp [dfs] at h
  | f + 1, p, q, h => by
    obtain ⟨r, hr, hq⟩ := List.mem_flatMap.mp h
    rcases List.mem_cons.mp hq with rfl | hq
    · exact ⟨kids_mem.mp hr, [r], by simp, rfl⟩
    · obtain ⟨h1, s, hs, rfl⟩ := dfs_mem hq
      exact ⟨h1, [r] ++ s, by simp, by simp⟩
theorem TrOk.pre {N : Tr} (ok : TrOk N) : ∀ (n : Nat) (s q : List (List Nat)), s.length = n → q ++ s ∈ N.map (·.1) → q ∈ N.map (·.1)
  | 0, s, q, hl, h => by
    have : s = [] := List.eq_nil_of_length_eq_zero hl
    subst this; simpa using h
  | n + 1, s, q, hl, h => by
    have hne : s ≠ [] := fun e => by subst e; simp at hl
    have e := List.dropLast_concat_getLast hne
    rw [← e, ← List.append_assoc] at h
    exact ok.pre n s.dropLast q (by simp [hl]) (ok.cl _ _ h)
theorem dfs_all {N : Tr} (ok : TrOk N) : ∀ (f : Nat) (p s : List (List Nat)), s ≠ [] → p ++ s ∈ N.map (·.1) → s.length ≤ f → p ++ s ∈ dfs N f p
  | 0, p, s, hs, _, hl => absurd (List.eq_nil_of_length_eq_zero (Nat.le_zero.mp hl)) hs
  | f + 1, p, [], hs, _, _ => absurd rfl hs
  | f + 1, p, r :: s, _, hm, hl => by
    have hpre := ok.pre
    have e : p ++ r :: s = (p ++ [r]) ++ s := by simp
    rw [e] at hm ⊢
    refine List.mem_flatMap.mpr ⟨r, kids_mem.mpr (hpre s.length s _ rfl hm), ?_⟩
    by_cases h0 : s = []
    · subst h0; simp
    · exact .tail _ (dfs_all ok f (p ++ [r]) s h0 hm (by simp at hl; omega))
theorem dfs_nodup {N : Tr} (h : (N.map (·.1)).Nodup) : ∀ (f : Nat) (p : List (List Nat)), (dfs N f p).Nodup
  | 0, _ => List.nodup_nil
  | f + 1, p => by
    have key : ∀ rs : List (List Nat), rs.Nodup → (rs.flatMap fun r => (p ++ [r]) :: dfs N f (p ++ [r])).Nodup := fun rs => by
      induction rs with
      | nil => intro _; simp
      | cons r rs ih =>
        intro hn
        rw [List.nodup_cons] at hn
        rw [List.flatMap_cons, List.nodup_append]
        refine ⟨List.nodup_cons.mpr ⟨fun hm => ?_, dfs_nodup h f _⟩, ih hn.2, fun x hx y hy e => ?_⟩
        · obtain ⟨_, s, hs, e⟩ := dfs_mem hm
          have := congrArg List.length e
          simp at this
          exact hs this
        · subst e
          have hx' : ∃ s, x = (p ++ [r]) ++ s := by
            rcases List.mem_cons.mp hx with rfl | hx
            · exact ⟨[], by simp⟩
            · obtain ⟨_, s, _, e⟩ := dfs_mem hx
              exact ⟨s, e⟩
          obtain ⟨r', hr', hy⟩ := List.mem_flatMap.mp hy
          have hy' : ∃ s, x = (p ++ [r']) ++ s := by
            rcases List.mem_cons.mp hy with rfl | hy
            · exact ⟨[], by simp⟩
            · obtain ⟨_, s, _, e⟩ := dfs_mem hy
              exact ⟨s, e⟩
          obtain ⟨s, e1⟩ := hx'
          obtain ⟨s', e2⟩ := hy'
          rw [e1] at e2
          simp at e2
          exact hn.1 (e2.1 ▸ hr')
    exact key _ (kids_nodup h p)
theorem nodup_len {α : Type} [DecidableEq α] : ∀ {l l' : List α}, l.Nodup → (∀ x ∈ l, x ∈ l') → l.length ≤ l'.length
  | [], _, _, _ => Nat.zero_le _
  | x :: l, l', hn, hs => by
    rw [List.nodup_cons] at hn
    have := nodup_len (l := l) (l' := l'.erase x) hn.2 fun y hy => (List.mem_erase_of_ne (by rintro rfl; exact hn.1 hy)).mpr (hs y (.tail _ hy))
    rw [List.length_erase_of_mem (hs x (.head _))] at this
    have h1 : 0 < l'.length := List.length_pos_of_mem (hs x (.head _))
    simp only [List.length_cons]
    omega
theorem dfs_len {N : Tr} (h : (N.map (·.1)).Nodup) (f : Nat) (p : List (List Nat)) : (dfs N f p).length ≤ N.length := by
  have := nodup_len (dfs_nodup h f p) (l' := N.map (·.1)) fun q hq => (dfs_mem hq).1
  simpa using this
theorem Heap.SLs_app {h : Heap} : ∀ {rs rs' : List Addr} {ps ps' : List (List (List Nat))}, SLs h rs ps → SLs h rs' ps' → SLs h (rs ++ rs') (ps ++ ps')
  | [], _, [], _, _, h => h
  | _ :: _, _, _ :: _, _, ⟨a, b⟩, h => ⟨a, SLs_app b h⟩
section
variable {c : Cx} {B : Heap} {m : Lo} {own : Ow} {K : Flow → Heap → Lo → Ow → Prop} {rest : List Stmt}
noncomputable def isKI (d : Addr) (n ep : Nat) (i : Nat) (o : Obj) : Prop := o.cls = .type "dict_keyiterator" ∧ o.data = .fields #[.ref d, .int i 0, .int n 0, .int ep 0]
theorem NX.dict {B0 : Heap} {it d : Addr} {kvs : List (Str × Value)} {ep : Nat} {y : Str} {p : Pos} (hh : c.A.handled = none) (hd : B0.DictAt (sk c.w) d kvs ep) (i : Nat) :
    NX c B0 it (isKI d kvs.length ep) i (decide (i < kvs.length)) (.Name y p) fun _ v => ∃ k u t, kvs[i]? = some (k, u) ∧ v = .str k t :=
  ⟨fun B m own s Q E b F h1 h2 => by
    obtain ⟨o, ho, hc, hdd⟩ := F.ow _ (.head _)
    have hit : s.heap.IsKeyIter it d i kvs.length ep := ⟨o, ho, hc, hdd⟩
    have hm : s.heap.DictAt (sk c.w) d kvs ep := hd.keep (b.ext.trans F.frz)
    by_cases hi : i < kvs.length
    · have hx : kvs[i]? = some (kvs[i].1, kvs[i].2) := List.getElem?_eq_getElem hi
      with_reducible refine wpAny_pyNext_dict_item hit hm hx fun key h' hkey hit hs => h1 (decide_eq_true hi) _ _ fun Q' E' q' => ?_
      rw [letOwned_name]
      obtain ⟨t, rfl⟩ := Value.isStrOf_shape hkey
      obtain ⟨o', ho', hc', hd'⟩ := hit
      have F' : Fm c B m ((it, isKI d kvs.length ep (i + 1)) :: own) { s with heap := h' } := F.step hs ho' ⟨hc', hd'⟩ rfl rfl (Nat.le_refl _)
      with_reducible exact wpAny_pure (q' _ B (Bs.refl _ _) ⟨_, _, t, hx, rfl⟩ F')
    · have hx : kvs[i]? = none := by simp; omega
      with_reducible refine wpAny_pyNext_dict_end hh hit hm hx fun h' hx => h2 (decide_eq_false hi) _ ?_
      exact F.lose (k := s.toks) (d := s.drawn) hx (Nat.le_refl _)⟩
theorem FO.dict {y : Str} {p : Pos} {body : List Stmt} {d : Addr} {kvs : List (Str × Value)} (I : Nat → Heap → Lo → Ow → Prop) (hh : c.A.handled = none) (hl : ∃ o, B.get? d = some o ∧ isD c.w kvs o) (h2 : 2 ≤ d) (h0 : ∀ B2, Bs c.n B B2 → I 0 B2 m own)
    (turn : ∀ i k u t B0 B2 m0 own1 q, kvs[i]? = some (k, u) → Bs c.n B B0 → Bs c.n B0 B2 → I i B0 m0 own1 → XW c B2 (put m0 y (.str k t)) (q :: own1) (execs body c.env) (forK c rest K q (I (i + 1))))
    (fin : ∀ B2 m1 own1, Bs c.n B B2 → I kvs.length B2 m1 own1 → XW c B2 m1 own1 (execs rest c.env) K) (hx : c.env.kindOf y = some .local) (hk : c.env.scope.kind = .function) : FO c (.Name y p) body rest K m own B (.ref d) := by
  obtain ⟨ep, hD⟩ := (Heap.dictOf_iff.mpr hl).dictAt
  refine ⟨kvs.length, isKI d kvs.length ep, fun i _ v => ∃ k u t, kvs[i]? = some (k, u) ∧ v = .str k t, fun i B m m' => ∃ v, (∃ k u t, kvs[i]? = some (k, u) ∧ v = .str k t) ∧ m' = put m y v, I, ?_, h0, fun i _ => TG.name hx hk,
    fun i B0 B2 m0 m1 own1 q hi b0 b2 hI ⟨v, ⟨k, u, t, hv, ev⟩, e⟩ => by subst ev e; exact turn i k u t B0 B2 m0 own1 q hv b0 b2 hI, fin⟩
  exact GV.grow fun s Q E F q => by
    with_reducible refine wpAny_pyIter_dict (not_sys h2) (hD.keep F.frz) ?_
    exact q _ _ ⟨fun b o e => Heap.get?_push_of_some _ e, by simp, rfl, rfl⟩ fun B' b x hn => ⟨_, rfl, F.fresh, ⟨_, hn _ _ (Nat.le_refl _) (Heap.get?_push_size _ rfl), rfl, rfl⟩, fun i => NX.dict hh hD i⟩
theorem gx_extend {a b : Addr} {pre post : Ow} {vs ws : List Value} (hb : Ls B b ws) (hz : vs.length + ws.length ≤ sizeLine) : GX c B m (pre ++ (a, isL vs) :: post) (call (.builtin "list.extend") [.ref a, .ref b]) fun B' own' r => B' = B ∧ own' = pre ++ (a, isL (vs ++ ws)) :: post ∧ r = .none :=
  ⟨fun s Q E F q => by
    obtain ⟨o, ho, n, rfl⟩ := F.ow _ mem_mid
    obtain ⟨o2, ho2, n2, rfl⟩ := hb.ext F.frz
    have hT : s.TypeIs (.ref a) "list" := ⟨_, ho, rfl⟩
    with_reducible refine call_meets PySem.F.slot_list_extend hT PySem.F.entry_list_extend (PySem.F.args_list_extend_2 _ _) (PySem.AutoSeq1.list_extend_list_list_0 a vs.toArray n b ws.toArray n2 ?_ (by simp; omega) (by simp; omega)) ⟨ho, ho2, ?_⟩
    · have : Builtin.List.listTooLong (vs.toArray.size + ws.toArray.size) = false := by
        unfold Builtin.List.listTooLong
        simp; omega
      rw [this]; simp
    · exact q _ _ B _ (Bs.refl _ _) (F.mapL (by simp)) ⟨rfl, rfl, rfl⟩⟩
/-- an item of a dict that stays -/
theorem EV.itemB {value slice : Expr} {pos : Pos} {a : Addr} {kvs : List (Str × Value)} {k : Str} {v : Value} (hv : VV c B m own value (.ref a)) (ha : ∃ o, B.get? a = some o ∧ isD c.w kvs o) (hi : SV c B m own slice k) (hk : valueAt kvs k = some v)
    (hs : ∀ o a, subscripted slice false o a = operate [o, a] (getItem o a)) : VV c B m own (.Subscript value slice pos) v :=
  EV.sub hv fun B1 o b1 eo => (hi.bs b1).mono fun B2 u b2 ⟨t, eu⟩ => by
    subst eo eu
    refine GV.still fun s Q E F q => ?_
    have hd : s.heap.DictOf (sk c.w) a kvs := (Heap.dictOf_iff.mpr ha).keep ((b1.trans b2).ext.trans F.frz)
    exact tail_any hd.typeIs slot_dict_getitem.lookup (wpAny_getItem_of (strKind_is _ _ _ _) hd.mapOf hk (q _ _ s.drawn rfl)) (hs _ _)
end
theorem fn_nodes (w : World) : FnK w 236 (fdOf 48 .none lawM (.ref 235)) := ⟨⟨.type "function", none, #[], by kernel_rfl⟩, by kernel_rfl⟩
theorem g_nodes (w : World) : nsIn (KK w) mainGlobals "_law_nodes" = some (some (.ref 236)) := by kernel_rfl
end Mine

end
section
open PySem PySem.W PyProof.Rows
set_option Elab.async false
set_option autoImplicit false
set_option linter.unusedVariables false
set_option maxRecDepth 100000
namespace Mine
theorem law_nodes {N : Tr} (ok : TrOk N) (hN : N.length ≤ 10000) : ∀ (f : Nat) {c : Cx} {B : Heap} {m : Lo} {own : Ow} (p : List (List Nat)) (a l : Addr), c.A.depth + f < recursionLimit → c.A.handled = none → (p, a) ∈ N → (∀ q ∈ N, q.1.length < p.length + f) → TB c.w B N → SL B l (p.map S) → p.length + f ≤ 1000 →
    GV c B m own (call (.ref 236) [.ref a, .ref l]) fun B1 v => ∃ r, v = .ref r ∧ B.get? r = none ∧ PL B1 r (dfs N f p)
  | 0, c, B, m, own, p, a, l, _, _, hp, hd, _, _, _ => absurd (hd _ hp) (by simp)
  | f + 1, c, B, m, own, p, a, l, room, hh, hp, hdep, hT, hl, hpl => by
    refine GV.fn (binds := [kv "folder" (.ref a), kv "rows" (.ref l)]) (fn_nodes c.w) rfl (by omega) (fun s k => BindsTo.of_eq rfl) (by decide +kernel) (locs (by rfl)) rfl rfl rfl fun s => ?_
    have room' : (sub c (fdOf 48 .none lawM (.ref 235)) 236 s).A.depth + f < recursionLimit := by show c.A.depth + 1 + f < recursionLimit; omega
    refine XW.assignOwn ((EV.list (R := fun _ vs => vs = []) (AV.nil fun _ _ => rfl) (by rintro _ _ rfl; exact Nat.zero_le _) fun _ _ _ _ e => e).mono fun B1 v b1 r => ?_) rfl rfl rfl
    obtain ⟨na, vs, rfl, hnn, ⟨o, ho, hLo⟩, rfl⟩ := r
    refine ⟨na, isL [], o, rfl, hnn, ho, hLo, fun hna b1' => ?_⟩
    generalize less B1 na = B1 at b1'
    have hkl : (kvsOf N p).length = (kidsOf N p).length := by have := congrArg List.length (kvs_kids N p); simpa using this
    refine XW.forG ((VV.loc rfl rfl rfl).mono fun B2 v b2 ev => ?_) fun _ => rfl
    subst ev
    refine FO.dict (kvs := kvsOf N p) (fun i B m own => m.lookup (Str.ofString "folder") = some (.ref a) ∧ m.lookup (Str.ofString "rows") = some (.ref l) ∧ m.lookup (Str.ofString "nodes") = some (.ref na) ∧ ∃ rs : List Addr, own = [(na, isL (rs.map .ref))] ∧ SLs B rs (((kidsOf N p).take i).flatMap fun r => (p ++ [r]) :: dfs N f (p ++ [r]))) hh
      (hT.ext (b1'.trans b2).ext _ hp) (ok.big _ hp) (fun B3 b3 => ⟨rfl, rfl, rfl, [], rfl, trivial⟩) ?_ ?_ rfl rfl
    · rintro i k u t B3 B4 m0 own1 q hk b3 b4 ⟨g1, g2, g3, rs, rfl, hS⟩
      have hke : ((kvsOf N p).map (·.1))[i]? = some k := by rw [List.getElem?_map, hk]; rfl
      rw [kvs_kids, List.getElem?_map] at hke
      obtain ⟨r, hr, rfl⟩ := Option.map_eq_some_iff.mp hke
      obtain ⟨r', b, hm, e⟩ := kvs_mem.mp (List.mem_of_getElem? hk)
      cases e
      have bb := (b1'.trans b2).trans (b3.trans b4)
      have htk : ((kidsOf N p).take (i + 1)).flatMap (fun r => (p ++ [r]) :: dfs N f (p ++ [r])) = ((kidsOf N p).take i).flatMap (fun r => (p ++ [r]) :: dfs N f (p ++ [r])) ++ ((p ++ [r]) :: dfs N f (p ++ [r])) := by rw [List.take_add_one, hr]; simp
      have hrl : rs.length ≤ N.length := by
        rw [hS.len]
        have h1 := dfs_len ok.nd (f + 1) p
        have h2 : (dfs N (f + 1) p).length = (((kidsOf N p).take i).flatMap fun r => (p ++ [r]) :: dfs N f (p ++ [r])).length + (((kidsOf N p).drop i).flatMap fun r => (p ++ [r]) :: dfs N f (p ++ [r])).length := by
          conv => lhs; unfold dfs; rw [← List.take_append_drop i (kidsOf N p), List.flatMap_append, List.length_append]
        omega
      have addE : ∀ (B5 : Heap) (m5 : Lo) (own5 : Ow) (p1 p2 p3 pos : Pos), Bs (sub c (fdOf 48 .none lawM (.ref 235)) 236 s).n B4 B5 → m5.lookup (Str.ofString "rows") = some (.ref l) → m5.lookup (Str.ofString "row") = some (.str (S r) t) →
          EV (sub c (fdOf 48 .none lawM (.ref 235)) 236 s) B5 m5 own5 (.BinOp (.Name (Str.ofString "rows") p1) .Add (.List [.Name (Str.ofString "row") p2] p3) pos) fun B6 v => ∃ x, v = .ref x ∧ SL B6 x ((p ++ [r]).map S) := fun B5 m5 own5 p1 p2 p3 pos b5 h1 h2 => by
        refine EV.binop (VV.loc h1 rfl rfl) fun B6 v b6 ev => ?_
        subst ev
        obtain ⟨L1, hL1, e1⟩ := hl.ext (bb.trans (b5.trans b6)).ext
        refine (EV.strs (AS.cons (VV.str (VV.loc h2 rfl rfl)) AS.nil fun _ => rfl) (by show 1 ≤ sizeLine; decide)).mono fun B7 v b7 r => ?_
        obtain ⟨x2, rfl, _, L2, hL2, e2⟩ := r
        have z1 : L1.length = p.length := by have := congrArg List.length e1; simpa using this
        have z2 : L2.length = 1 := by have := congrArg List.length e2; simpa using this
        refine (gv_add_list (hL1.ext b7.ext) hL2 (by simp [strValues, z1, z2]; unfold sizeLine; omega)).mono fun B8 v b8 r => ?_
        obtain ⟨x3, rfl, _, hL3⟩ := r
        exact ⟨x3, rfl, L1 ++ L2, by simpa [strValues] using hL3, by rw [List.map_append, e1, e2, List.map_append]; rfl⟩
      dsimp only
      refine XW.exprX (EX.listM (VV.loc (lk_other g3) rfl rfl) (.tail _ (.head _)) PySem.F.slot_list_append PySem.F.type_list_append (EX.of (R := fun B own' v => own' = q :: [(na, isL (rs.map .ref))] ∧ ∃ x, v = .ref x ∧ SL B x ((p ++ [r]).map S)) ((addE _ _ _ _ _ _ _ (Bs.refl _ _) (lk_other g2) lk_same).mono fun B5 v b5 h => ⟨rfl, h⟩)) (fun B5 own5 v b5 h => ?_) (mc_of (fun _ => rfl) rfl rfl) fun _ => rfl) rfl rfl
      obtain ⟨rfl, x5, rfl, hx5⟩ := h
      refine (gx_append (pre := [q]) (post := []) (by simp; unfold sizeLine; omega)).mono fun B6 own' v b6 h => ?_
      obtain ⟨rfl, rfl, rfl⟩ := h
      refine XW.exprX (EX.listM (vs := rs.map .ref ++ [.ref x5]) (VV.loc (lk_other g3) rfl rfl) (.tail _ (.head _)) PySem.F.slot_list_extend PySem.F.type_list_extend (EX.of (R := fun B own' v => own' = q :: [(na, isL (rs.map .ref ++ [.ref x5]))] ∧ ∃ x, v = .ref x ∧ PL B x (dfs N f (p ++ [r]))) ?_) (fun B7 own7 v b7 h => ?_) (mc_of (fun _ => rfl) rfl rfl) fun _ => rfl) rfl rfl
      · refine (EV.callF (R := fun B v => ∃ x, v = .ref x ∧ PL B x (dfs N f (p ++ [r]))) (VV.glob (g_nodes _) rfl rfl rfl) (fn_nodes _) (AV.cons (EV.itemB (c := sub c (fdOf 48 .none lawM (.ref 235)) 236 s) (kvs := kvsOf N p) (VV.loc (lk_other g1) rfl rfl) (hT.ext (bb.trans b5).ext _ hp) (VV.str (VV.loc lk_same rfl rfl)) (kvs_value ok.nd hm) fun _ _ => rfl) (fun B7 v b7 ev => AV.cons (addE _ _ _ _ _ _ _ (b5.trans b7) (lk_other g2) lk_same) (fun B8 u b8 ⟨x8, eu, hx8⟩ => AV.nil fun B9 b9 => by
          subst ev eu
          exact (law_nodes (c := sub c (fdOf 48 .none lawM (.ref 235)) 236 s) ok hN f (p ++ [r]) _ _ room' hh hm (fun z hz => by have := hdep z hz; simp; omega) (hT.ext (bb.trans (b5.trans (b7.trans (b8.trans b9)))).ext) (hx8.ext b9.ext) (by simp; omega)).mono fun B10 v b10 ⟨x, e1, _, e2⟩ => ⟨x, e1, e2⟩) fun _ => rfl) fun _ => rfl) fun _ => rfl).mono fun B7 v b7 h => ⟨rfl, h⟩
      · obtain ⟨rfl, x7, rfl, ws, hw1, hw2⟩ := h
        have hwl : ws.length ≤ N.length := by rw [hw2.len]; exact dfs_len ok.nd f _
        refine (gx_extend (pre := [q]) (post := []) hw1 (by simp; unfold sizeLine; omega)).mono fun B8 own' v b8 h => ?_
        obtain ⟨rfl, rfl, rfl⟩ := h
        refine XW.nil ⟨_, rfl, lk_other g1, lk_other g2, lk_other g3, rs ++ (x5 :: ws), by simp, ?_⟩
        rw [htk]
        exact Heap.SLs_app (hS.ext (b4.trans (b5.trans b7)).ext) ⟨hx5.ext b7.ext, hw2⟩
    · rintro B3 m1 own1 b3 ⟨g1, g2, g3, rs, rfl, hS⟩
      rw [hkl, List.take_length] at hS
      refine XW.give hna fun B4 b4 hfr => ?_
      exact XW.ret ((VV.loc g3 rfl rfl).mono fun B5 v b5 ev => ⟨na, ev, hnn, rs, Ls.ext (h := B4) hfr b5.ext, hS.ext (b4.trans b5).ext⟩)
end Mine

end
section
open PySem PySem.W PyProof.Rows
set_option Elab.async false
set_option autoImplicit false
set_option linter.unusedVariables false
set_option maxRecDepth 100000
namespace Mine
/-! functions with cells -/
noncomputable abbrev isC (v : Option Value) (o : Obj) : Prop := o.data = .cell v
noncomputable abbrev subC (c : Cx) (fd : FuncData) (f : Addr) (s : Shared) : Cx := ⟨c.w, c.A.deeper (callEnvC fd s.heap.objs.size f), c.G, s, fun _ => False, callEnvC fd s.heap.objs.size f⟩
noncomputable def ownC (cs : List (Str × Addr)) : Ow := cs.map fun x => (x.2, isC none)
section
variable {c : Cx} {B : Heap} {m : Lo} {own : Ow} {K : Flow → Heap → Lo → Ow → Prop} {rest : List Stmt}
theorem GV.fnC {f : Addr} {fd : FuncData} {body : List Stmt} {args : List Value} {binds : List (Str × Value)} {R : Heap → Value → Prop} (hf : FnK c.w f fd) (hbody : fd.body = .stmts body) (room : c.A.depth < recursionLimit)
    (hbind : bindArgs fd ⟨args, []⟩ = Pure.pure binds) (hloc : ∀ x ∈ binds, fd.scope.names.lookup x.1 = some .local)
    (hclo : fd.closure = []) (hco : fd.scope.isCoroutine = false) (hgen : fd.scope.isGenerator = false) (hk : fd.scope.kind = .function)
    (hL : ∀ L, bindL (callEnvC fd L f).kindOf binds (fun _ => none) = fun x => binds.reverse.lookup x) (hC : ∀ L n, bindC (callEnvC fd L f).kindOf binds (fun _ => none) n = none)
    (hnd : ∀ L, ((cellsFrom (L + 1) fd.scope.names []).map (·.1)).Nodup)
    (h : ∀ s, XW (subC c fd f s) B binds.reverse (ownC (cellsFrom (s.heap.objs.size + 1) fd.scope.names [])) (execs body (subC c fd f s).env) fun fl B' _ _ => R B' (retv fl)) : GV c B m own (call (.ref f) args) R :=
  ⟨fun s Q E F q => by
    have kk := F.gl.k.keeps F.frz
    obtain ⟨o, ho, hd⟩ := hf.get kk
    with_reducible refine wpAny_call (codeAny_call_function room ho hd hco hgen hbody (codeRec_of kk hf.code) ?_)
    rw [hbind, hclo]
    with_reducible refine wpAny_pure (wpAny_with_toks F.tk (wpAny_newFunctionEnv_cells hk (fun x hx => .inl (hloc x hx)) fun env he s' x ht => ?_))
    subst he
    obtain ⟨⟨⟨h₀, tk, rfl⟩, hns, hk₀, _⟩, hcell, hapart, habove⟩ := x
    refine ⟨(F.gl.lim.keeps F.frz).keeps hk₀, codeAny_func ?_⟩
    have hL' := hL s.heap.objs.size
    have hC' := hC s.heap.objs.size
    have hns' : h₀.Ns s.heap.objs.size (fun x => binds.reverse.lookup x) := by
      have : h₀.Ns s.heap.objs.size (bindL (callEnvC fd s.heap.objs.size f).kindOf binds fun _ => none) := hns
      rwa [hL'] at this
    have hlook : ∀ p ∈ cellsFrom (s.heap.objs.size + 1) fd.scope.names [], (cellsFrom (s.heap.objs.size + 1) fd.scope.names []).lookup p.1 = some p.2 := fun p hp => by
      have nd := hnd s.heap.objs.size
      generalize cellsFrom (s.heap.objs.size + 1) fd.scope.names [] = cs at hp nd
      induction cs with
      | nil => cases hp
      | cons y ys ih =>
        rw [List.map_cons, List.nodup_cons] at nd
        rw [List.lookup_cons]
        rcases List.mem_cons.mp hp with rfl | hp
        · simp
        · have : (p.1 == y.1) = false := beq_eq_false_iff_ne.mpr fun e => nd.1 (e ▸ List.mem_map_of_mem hp)
          rw [this]; exact ih hp nd.2
    have F1 : Fm (subC c fd f s) B binds.reverse (ownC (cellsFrom (s.heap.objs.size + 1) fd.scope.names [])) { s with heap := h₀, toks := tk } := by
      refine ⟨F.gg, F.gx, Nat.le_trans F.gn F.size, fun b o _ e => hk₀ b o e, Nat.le_of_lt hns'.lt, fun b o e => hk₀ _ _ (F.frz _ _ e), hns', fun p hp => ?_, F.fresh, Nat.le_refl _, fun p hp => ?_, ?_, rfl, rfl, ht⟩
      · obtain ⟨x, hx, rfl⟩ := List.mem_map.mp hp
        obtain ⟨o, ho, hdat⟩ := hcell x.1 x.2 (hlook x hx)
        exact ⟨o, ho, hdat.trans (congrArg _ (hC' x.1))⟩
      · obtain ⟨x, hx, rfl⟩ := List.mem_map.mp hp
        have hlt : s.heap.objs.size < x.2 := habove x.1 x.2 hx
        refine ⟨?_, fun e => Nat.lt_irrefl _ (Nat.lt_of_lt_of_eq hlt e), .inl (Nat.le_of_lt hlt)⟩
        cases e : B.get? x.2 with
        | none => rfl
        | some o => exact absurd (Heap.lt_size (F.frz _ _ e)) (Nat.not_lt.mpr (Nat.le_of_lt hlt))
      · have : (ownC (cellsFrom (s.heap.objs.size + 1) fd.scope.names [])).map (·.1) = (cellsFrom (s.heap.objs.size + 1) fd.scope.names []).map (·.2) := by simp [ownC]
        rw [this]
        exact List.pairwise_map.mpr hapart
    show wpAny _ (c.A.deeper (callEnvC fd s.heap.objs.size f)) (execs body (callEnvC fd s.heap.objs.size f)) _ _ _
    with_reducible refine (h s).run _ _ _ F1 fun fl s' B' m' own' b F' r => ?_
    have := q (retv fl) s' B' (b.low F.size) (F.back F' rfl (fun _ h => h) b) r
    cases fl <;> exact this⟩
/-- a name in a cell, stored for good -/
theorem XW.assignCell {x : Str} {e : Expr} {pos pos' : Pos} {a : Addr} {v₀ : Option Value} {pre post : Ow} (h : EV c B m (pre ++ (a, isC v₀) :: post) e fun B' v => XW c B' m (pre ++ (a, isC (some v)) :: post) (execs rest c.env) K) (hl : c.env.kindOf x = some .cell) (hk : c.env.scope.kind = .function)
    (hc : c.env.cells.lookup x = some a) (hs : swapsWith e (some (.Name x pos')) pos.line c.env = pure false) : XW c B m (pre ++ (a, isC v₀) :: post) (execs (.Assign [.Name x pos'] e pos :: rest) c.env) K :=
  XW.cons ⟨fun s Q E F q => by
    with_reducible refine wpAny_Assign_Name ((h.run B (Bs.refl _ _)).run s _ E F fun v s1 B1 b1 F1 r1 => ?_) hs
    obtain ⟨o, ho, hd⟩ := F1.ow _ mem_mid
    have hcl : s1.heap.IsCell a v₀ := ⟨o, ho, hd⟩
    with_reducible refine wpAny_storeName_cell hk hl hc hcl fun h' hc' hsb => ?_
    obtain ⟨o', ho', hd'⟩ := hc'
    have F2 := F1.upd (s' := { s1 with heap := h' }) (P := isC v₀) mem_mid hsb ho' (Q := isC (some v)) hd' rfl rfl (Nat.le_refl _)
    rw [setO_split F1.nd] at F2
    exact q .next _ B1 m _ b1 F2 r1⟩
/-- a cell that stays, read -/
theorem VV.cell {x : Str} {pos : Pos} {v : Value} {a : Addr} (ha : ∃ o, B.get? a = some o ∧ isC (some v) o) (hl : c.env.kindOf x = some .cell) (hk : c.env.scope.kind = .function) (hc : c.env.cells.lookup x = some a)
    (hd : (x == ("__debug__" : Str)) = false := by decide) : VV c B m own (.Name x pos) v :=
  EV.still fun B' b s Q E F q => by
    obtain ⟨o, ho, hv⟩ := ha
    have hcl : s.heap.IsCell a (some v) := ⟨o, F.frz _ _ (b.ext _ _ ho), hv⟩
    with_reducible exact wpAny_Name (wpAny_loadName_cell hk hl hc hcl (q v s.toks s.drawn rfl)) hd
end
end Mine

end
section
open PySem PySem.W PyProof.Rows
set_option Elab.async false
set_option autoImplicit false
set_option linter.unusedVariables false
set_option maxRecDepth 100000
namespace Mine
/-! comprehensions -/
noncomputable abbrev cpx (c : Cx) (scope : Scope) (cl : List (Str × Addr)) (C : Addr) : Cx := { c with env := compEnvC scope cl C c.env }
section
variable {c : Cx} {B : Heap} {m : Lo} {own : Ow}
theorem Fm.inComp {s : Shared} {scope : Scope} {cl : List (Str × Addr)} {C : Addr} {h' : Heap} {k : Nat} (F : Fm c B m own s) (hC : s.heap.objs.size ≤ C) (hns : h'.Ns C (fun _ => none)) (hk : ∀ b o, s.heap.get? b = some o → h'.get? b = some o) (ht : s.toks ≤ k) :
    ∃ oL, s.heap.get? c.L = some oL ∧ Fm (cpx c scope cl C) B [] ((c.L, fun o => o = oL) :: own) { s with heap := h', toks := k } := by
  obtain ⟨oL, es, ep, hoL, r⟩ := F.ns
  refine ⟨oL, hoL, ⟨F.gg, F.gx, F.gn, fun b o h e => hk _ _ (F.keep b o h e), Nat.le_trans F.size (Nat.le_trans hC (Nat.le_of_lt hns.lt)), fun b o e => hk _ _ (F.frz _ _ e), hns, fun p hp => ?_, ?_, Nat.le_trans F.size hC, fun p hp => ?_, ?_, F.gens, F.os, Nat.le_trans F.tk ht⟩⟩
  · rcases List.mem_cons.mp hp with rfl | hp
    · exact ⟨oL, hk _ _ hoL, rfl⟩
    · obtain ⟨o, ho, q⟩ := F.ow p hp
      exact ⟨o, hk _ _ ho, q⟩
  · show B.get? C = none
    cases e : B.get? C with
    | none => rfl
    | some o => exact absurd (Heap.lt_size (F.frz _ _ e)) (Nat.not_lt.mpr hC)
  · rcases List.mem_cons.mp hp with rfl | hp
    · exact ⟨F.bL, fun e => absurd (Heap.lt_size hoL) (Nat.not_lt.mpr (Nat.le_trans hC (Nat.le_of_eq e.symm))), .inl F.lL⟩
    · obtain ⟨o, ho, _⟩ := F.ow p hp
      have q := F.bown p hp
      exact ⟨q.1, fun e => absurd (Heap.lt_size ho) (Nat.not_lt.mpr (Nat.le_trans hC (Nat.le_of_eq e.symm))), q.2.2⟩
  · rw [List.map_cons, List.nodup_cons]
    refine ⟨fun h => ?_, F.nd⟩
    obtain ⟨p, hp, e⟩ := List.mem_map.mp h
    exact (F.bown p hp).2.1 e
theorem Fm.outComp {s s' : Shared} {scope : Scope} {cl : List (Str × Addr)} {C : Addr} {B' : Heap} {m' : Lo} {oL : Obj} {h' : Heap} (F : Fm c B m own s) (hoL : s.heap.get? c.L = some oL) (F' : Fm (cpx c scope cl C) B' m' ((c.L, fun o => o = oL) :: own) s') (b : Bs c.n B B') (hbL : B'.get? c.L = none) (hs : Heap.SameBut C s'.heap h') :
    Fm c B' m own { s' with heap := h' } := by
  have hk : ∀ b, b ≠ C → ∀ o, s'.heap.get? b = some o → h'.get? b = some o := fun b hb o e => (hs.2 b hb).trans e
  obtain ⟨oL', es, ep, hoL2, r⟩ := F.ns
  rw [hoL] at hoL2
  cases hoL2
  have nd := F'.nd
  rw [List.map_cons, List.nodup_cons] at nd
  obtain ⟨o', ho', rfl⟩ := F'.ow _ (.head _)
  have hLC := (F'.bown _ (.head _)).2.1
  refine ⟨F.gg, F'.gx, F.gn, fun b o h e => hk b (fun q => ?_) o (F'.keep b o h e), hs.1 ▸ F'.size, fun b o e => hk b (fun q => ?_) o (F'.frz b o e), ⟨o', es, ep, hk _ hLC _ ho', r⟩, fun p hp => ?_, hbL, F.lL, fun p hp => ?_, F.nd, F'.gens, F'.os, F'.tk⟩
  · subst q; exact absurd (Heap.lt_size e) (Nat.not_lt.mpr F'.lL)
  · subst q
    have := F'.bL
    rw [show (cpx c scope cl b).L = b from rfl] at this
    rw [this] at e; cases e
  · obtain ⟨o, ho, q⟩ := F'.ow p (.tail _ hp)
    exact ⟨o, hk _ (F'.bown p (.tail _ hp)).2.1 o ho, q⟩
  · exact ⟨(F'.bown p (.tail _ hp)).1, (F.bown p hp).2⟩
/-- the tests of a comprehension -/
structure TS (c : Cx) (B : Heap) (m : Lo) (own : Ow) (ifs : List Expr) (p : Bool) : Prop where
  run : ∀ B', Bs c.n B B' → GV c B' m own (forIn ifs true fun t r => if r = true then do let ok ← isTrue t c.env (eval t c.env); Pure.pure (ForInStep.yield ok) else Pure.pure (ForInStep.yield r)) fun _ v => v = p
theorem TS.nil : TS c B m own [] true := ⟨fun B' b => ⟨fun s Q E F q => wpAny_tests_nil (q true s B' (Bs.refl _ _) F rfl)⟩⟩
theorem TS.one {t : Expr} {p : Bool} (h : TV c B m own t p) : TS c B m own [t] p := ⟨fun B' b => ⟨fun s Q E F q => wpAny_tests_one ((h.run B' b).run s Q E F q)⟩⟩
/-- what a comprehension walks over -/
noncomputable def Src (h : Heap) (a : Addr) (vs : List Value) : Prop := Ls h a vs ∨ Tu h a vs
theorem Src.ext {h h' : Heap} {a : Addr} {vs : List Value} (x : Src h a vs) (e : Ext h h') : Src h' a vs := x.imp (fun y => y.ext e) fun y => y.ext e
theorem Src.iter {a : Addr} {vs : List Value} (hl : Src B a vs) (hh : c.A.handled = none) : ∃ St : Nat → Obj → Prop, (∀ s Q E, Fm c B m own s → (∀ o, St 0 o → o.isFreed = false → Q (.ref s.heap.objs.size) { s with heap := s.heap.push o }) → wpAny (Md c.w) c.A (pyIter (.ref a)) Q E s) ∧
    (∀ (c' : Cx) B', c'.A = c.A → Ext B B' → ∀ it i x p, NX c' B' it St i (decide (i < vs.length)) (.Name x p) fun _ v => vs[i]? = some v) ∧
    (∀ (s : Shared) it i Q E o, s.heap.get? it = some o → St i o → Q (.ref it) s → wpAny (Md c.w) c.A (pyIter (.ref it)) Q E s) := by
  rcases hl with hl | hl
  · refine ⟨isLI a, fun s Q E F q => ?_, fun c' B' h1 h2 it i x p => NX.list (by rw [h1]; exact hh) (hl.ext h2) i, fun s it i Q E o ho hS q => ?_⟩
    · with_reducible refine wpAny_pyIter_list (hl.ext F.frz).list ?_
      exact q _ ⟨rfl, rfl⟩ rfl
    · exact wpAny_pyIter_listiter (i := i) ⟨o, ho, hS⟩ q
  · refine ⟨isTI a, fun s Q E F q => ?_, fun c' B' h1 h2 it i x p => NX.tuple (by rw [h1]; exact hh) (hl.ext h2) i, fun s it i Q E o ho hS q => ?_⟩
    · with_reducible refine wpAny_pyIter_tuple (hl.ext F.frz).tup ?_
      exact q _ ⟨rfl, rfl⟩ rfl
    · exact wpAny_pyIter_tupleiter (i := i) (t := a) ⟨o, ho, hS⟩ q
end
end Mine

end
section
open PySem PySem.W PyProof.Rows
set_option Elab.async false
set_option autoImplicit false
set_option linter.unusedVariables false
set_option maxRecDepth 100000
namespace Mine
/-! tuple(map(f, xs)) -/
theorem mro_map : mroOf (.type "map") = pure [.type "map", .type "object"] := by rw [mroOf_type]; kernel_rfl
theorem lookup_map_new : typeLookup (.type "map") "__new__" = pure (some (.builtin "map.__new__")) := by rw [typeLookup_type, builtinLookup_eq_fast]; kernel_rfl
theorem sub_map : isSubtype (.type "map") (.type "map") = pure true := by rw [isSubtype_type]; kernel_rfl
theorem slot_map_init : Slot "map" "__init__" "object.__init__" :=
  .of (owner := "object") (n := "__init__") (by rw [typeLookup_type, builtinLookup_eq_fast]; kernel_rfl) (by decide +kernel) (by decide +kernel) (by decide +kernel)
    (by first | exact .inl (by decide +kernel) | exact .inr (by decide +kernel)) (by rw [isSubtype_type]; kernel_rfl)
theorem slot_map_next : Slot "map" "__next__" "map.__next__" :=
  .of (owner := "map") (n := "__next__") (by rw [typeLookup_type, builtinLookup_eq_fast]; kernel_rfl) (by decide +kernel) (by decide +kernel) (by decide +kernel)
    (by first | exact .inl (by decide +kernel) | exact .inr (by decide +kernel)) (by rw [isSubtype_type]; kernel_rfl)
theorem called_map : TypeCalled "map" "map.__new__" "object.__init__" :=
  ⟨by decide +kernel, by decide +kernel, ⟨_, _, mro_map⟩, madeBy_type mro_map lookup_map_new (by decide +kernel), by decide +kernel, by rw [isSubtype_type]; kernel_rfl, slot_map_init⟩
theorem typeCall_map (a b : Value) : checkTypeCall "map" ⟨[a, b], []⟩ = pure () := by kernel_rfl
theorem newCall_map (a b : Value) : checkBuiltinCall "map.__new__" ⟨[.type "map", a, b], []⟩ = pure () := by kernel_rfl
theorem entry_map_new : entryFor table "map.__new__" = some Builtin.«map.__new__» := entryFor_of_tree (by kernel_rfl)
theorem entry_map_next : entryFor table "map.__next__" = some Builtin.«map.__next__» := entryFor_of_tree (by kernel_rfl)
theorem meets_map_new (f l : Addr) (xs : Array Value) : Meets (Builtin.«map.__new__» ⟨[.type "map", .ref f, .ref l], []⟩) (fun _ R s => s.heap.IsList l xs ∧
    R (.ok (.ret (.ref (s.heap.objs.size + 2)))) { s with heap := ((s.heap.push { cls := .type "list_iterator", data := .fields #[.ref l, .int 0 0] }).push { cls := .type "tuple", data := .seq #[.ref s.heap.objs.size] }).push { cls := .type "map", data := .fields #[.ref (s.heap.objs.size + 1), .ref f] } }) :=
  .of_wp fun prog w A R s h => by
    obtain ⟨hp, g, d, tk, os⟩ := s; obtain ⟨hl, h⟩ := h
    have hsub := sub_map
    have hL : Heap.IsList (Shared.heap ⟨hp, g, d, tk, os⟩) l xs := hl
    wp_walk using wpAny_pyIter_list hL
    refine ⟨_, rfl, ?_⟩
    simpa [Heap.size_push] using h
end Mine

end
section
open PySem PySem.W PyProof.Rows
set_option Elab.async false
set_option autoImplicit false
set_option linter.unusedVariables false
set_option maxRecDepth 100000
namespace Mine
/-! tuple(map(f, xs)), f giving its argument back -/
noncomputable abbrev atU (c : Cx) (u : Nat) : Cx := { c with A := { c.A with units := u } }
theorem Fm.atU {c : Cx} {B : Heap} {m : Lo} {own : Ow} {s : Shared} {u : Nat} (F : Fm c B m own s) : Fm (atU c u) B m own s :=
  ⟨F.gg, F.gx, F.gn, F.keep, F.size, F.frz, F.ns, F.ow, F.bL, F.lL, F.bown, F.nd, F.gens, F.os, F.tk⟩
theorem Fm.ofU {c : Cx} {B : Heap} {m : Lo} {own : Ow} {s : Shared} {u : Nat} (F : Fm (Mine.atU c u) B m own s) : Fm c B m own s :=
  ⟨F.gg, F.gx, F.gn, F.keep, F.size, F.frz, F.ns, F.ow, F.bL, F.lL, F.bown, F.nd, F.gens, F.os, F.tk⟩
theorem args_map_next (a : Value) : argsOk "map.__next__" ⟨[a], []⟩ := by unfold argsOk; kernel_rfl
theorem args_map_iter (a : Value) : argsOk "map.__iter__" ⟨[a], []⟩ := by unfold argsOk; kernel_rfl
theorem slot_map_iter' : Slot "map" "__iter__" "map.__iter__" := .of (owner := "map") (n := "__iter__") (by rw [typeLookup_type, builtinLookup_eq_fast]; kernel_rfl) (by decide +kernel) (by decide +kernel) (by decide +kernel)
    (by first | exact .inl (by decide +kernel) | exact .inr (by decide +kernel)) (by rw [isSubtype_type]; kernel_rfl)
theorem entry_map_iter : entryFor table "map.__iter__" = some Builtin.«dict_keyiterator.__iter__» :=
  entryFor_alias (id' := "dict_keyiterator.__iter__") (by kernel_rfl) (by first | rfl | decide +kernel | (unfold String.splitOn; simp +decide [String.splitOnAux])) (by decide +kernel) (by kernel_rfl)
theorem map_no_len : typeLookup (.type "map") "__len__" = pure none := by rw [typeLookup_type, builtinLookup_eq_fast]; kernel_rfl
theorem map_no_hint : typeLookup (.type "map") "__length_hint__" = pure none := by rw [typeLookup_type, builtinLookup_eq_fast]; kernel_rfl
noncomputable def Mp (h : Heap) (mp it f : Addr) : Prop := ∃ tu, h.get? tu = some { cls := .type "tuple", data := .seq #[.ref it] } ∧ h.get? mp = some { cls := .type "map", data := .fields #[.ref tu, .ref f] }
theorem Mp.ext {h h' : Heap} {mp it f : Addr} (x : Mp h mp it f) (e : Ext h h') : Mp h' mp it f := let ⟨tu, a, b⟩ := x; ⟨tu, e _ _ a, e _ _ b⟩
theorem Mp.typeIs {s : Shared} {mp it f : Addr} (x : Mp s.heap mp it f) : s.TypeIs (.ref mp) "map" := let ⟨tu, a, b⟩ := x; ⟨_, b, rfl⟩
section
variable {c : Cx} {B : Heap} {m : Lo} {own : Ow}
theorem gx_map {f l : Addr} {vs : List Value} (hl : Ls B l vs) : GX c B m own (call (.type "map") [.ref f, .ref l]) fun B' own' v => ∃ mp it, v = .ref mp ∧ own' = (it, isLI l 0) :: own ∧ Mp B' mp it f ∧ c.n ≤ it :=
  ⟨fun s Q E F q => by
    refine callType_new called_map (by decide) (typeCall_map _ _) (newCall_map _ _) (fun obj => PySem.F.args_object_init_3 obj _ _) entry_map_new (meets_map_new f l vs.toArray) ⟨(hl.ext F.frz).list, ?_⟩
    have z1 : (s.heap.push { cls := .type "list_iterator", data := .fields #[.ref l, .int 0 0] }).objs.size = s.heap.objs.size + 1 := Heap.size_push ..
    have z2 : ((s.heap.push { cls := .type "list_iterator", data := .fields #[.ref l, .int 0 0] }).push { cls := .type "tuple", data := .seq #[.ref s.heap.objs.size] }).objs.size = s.heap.objs.size + 2 := by rw [Heap.size_push, z1]
    generalize hh1 : s.heap.push { cls := .type "list_iterator", data := .fields #[.ref l, .int 0 0] } = h1 at z1 z2
    have g1 : h1.get? s.heap.objs.size = some { cls := .type "list_iterator", data := .fields #[.ref l, .int 0 0] } := by rw [← hh1]; exact Heap.get?_push_size _ rfl
    have k1 : ∀ b o, s.heap.get? b = some o → h1.get? b = some o := fun b o e => by rw [← hh1]; exact Heap.get?_push_of_some _ e
    generalize hh2 : h1.push { cls := .type "tuple", data := .seq #[.ref s.heap.objs.size] } = h2 at z2
    have g2 : h2.get? (s.heap.objs.size + 1) = some { cls := .type "tuple", data := .seq #[.ref s.heap.objs.size] } := by rw [← hh2, ← z1]; exact Heap.get?_push_size _ rfl
    have k2 : ∀ b o, h1.get? b = some o → h2.get? b = some o := fun b o e => by rw [← hh2]; exact Heap.get?_push_of_some _ e
    generalize hh3 : h2.push { cls := .type "map", data := .fields #[.ref (s.heap.objs.size + 1), .ref f] } = h3
    have g3 : h3.get? (s.heap.objs.size + 2) = some { cls := .type "map", data := .fields #[.ref (s.heap.objs.size + 1), .ref f] } := by rw [← hh3, ← z2]; exact Heap.get?_push_size _ rfl
    have k3 : ∀ b o, h2.get? b = some o → h3.get? b = some o := fun b o e => by rw [← hh3]; exact Heap.get?_push_of_some _ e
    have g : Grow s { s with heap := h3 } := ⟨fun b o e => k3 _ _ (k2 _ _ (k1 _ _ e)), by show _ ≤ h3.objs.size; rw [← hh3, Heap.size_push, z2]; omega, rfl, rfl⟩
    obtain ⟨b1, F1⟩ := F.grow g F.tk
    have F2 := F1.take (b1.low F.size) (P := isLI l 0) F.fresh (grown_new (k3 _ _ (k2 _ _ g1)) (Nat.le_refl _)) ⟨rfl, rfl⟩
    show _ ∧ _
    refine ⟨⟨_, g3, rfl⟩, q _ _ _ _ (less_bs (b1.low F.size) F.fresh) F2 ⟨_, _, rfl, rfl, ⟨s.heap.objs.size + 1, ?_, ?_⟩, F.size⟩⟩
    · rw [less_get (Nat.succ_ne_self _)]; exact grown_new (k3 _ _ g2) (by omega)
    · rw [less_get (show s.heap.objs.size + 2 ≠ s.heap.objs.size by omega)]; exact grown_new g3 (show s.heap.objs.size ≤ s.heap.objs.size + 2 by omega)⟩
theorem map_item {mp it f l : Addr} {i : Nat} {vs : List Value} {v : Value} {R : Heap → Value → Prop} (hm : Mp B mp it f) (hl : Ls B l vs) (hv : vs[i]? = some v)
    (hf : GV (atU c (c.A.units + 1)) B m ((it, isLI l (i + 1)) :: own) (call (.ref f) [v]) R) : ∀ s (Q : Option Value → Shared → Prop) E, Fm c B m ((it, isLI l i) :: own) s → (∀ r s' B', Bs c.n B B' → Fm c B' m ((it, isLI l (i + 1)) :: own) s' → R B' r → Q (some r) s') → wpAny (Md c.w) c.A (pyNext (.ref mp)) Q E s := fun s Q E F q => by
  have hms := hm.ext F.frz
  have hT := hms.typeIs
  obtain ⟨tu, htu, hmp⟩ := hms
  obtain ⟨o, ho, hc, hd⟩ := F.ow _ (.head _)
  have hit : s.heap.IsListIter it l i := ⟨o, ho, hc, hd⟩
  unfold pyNext
  refine wpAny_bind (wpAny_attempt (wpAny_callSpecial?_slot (name := Str.ofString "__next__") hT slot_map_next (wpAny_call_entry slot_map_next hT entry_map_next ?_ (args_map_next _))))
  show wpAny _ _ (field (.ref mp) 0 >>= _) _ _ _
  refine wpAny_bind (wpAny_field hmp rfl (x := .ref tu) rfl ?_)
  refine wpAny_bind (wpAny_seqItems htu rfl ?_)
  show wpAny _ _ (forIn (#[Value.ref it] : Array Value) _ _ >>= _) _ _ _
  rw [← Array.forIn_toList]
  simp only [List.forIn_cons, List.forIn_nil, bind_assoc, pure_bind]
  refine wpAny_bind (wpAny_holding (wpAny_nextOf_list_item hit (hl.ext F.frz).list (x := v) (by simpa using hv) fun h' hit' hs => ?_))
  obtain ⟨o', ho', hc', hd'⟩ := hit'
  have F' : Fm c B m ((it, isLI l (i + 1)) :: own) { s with heap := h' } := F.step hs ho' ⟨hc', hd'⟩ rfl rfl (Nat.le_refl _)
  obtain ⟨tu', htu', hmp'⟩ := hm.ext F'.frz
  refine wpAny_bind (wpAny_field hmp' rfl (x := .ref f) rfl ?_)
  refine wpAny_bind (wpAny_holding (hf.run _ _ _ F'.atU fun r s' B' b F2 hr => ?_))
  refine wpAny_bind (wpAny_letGo (wpAny_pure ⟨_, rfl, wpAny_pure (q r s' B' b F2.ofU hr)⟩))
theorem map_end {mp it f l : Addr} {i : Nat} {vs : List Value} (hh : c.A.handled = none) (hm : Mp B mp it f) (hl : Ls B l vs) (hv : vs[i]? = none) :
    ∀ s (Q : Option Value → Shared → Prop) E, Fm c B m ((it, isLI l i) :: own) s → (∀ s', Fm c B m own s' → Q none s') → wpAny (Md c.w) c.A (pyNext (.ref mp)) Q E s := fun s Q E F q => by
  have hms := hm.ext F.frz
  have hT := hms.typeIs
  obtain ⟨tu, htu, hmp⟩ := hms
  obtain ⟨o, ho, hc, hd⟩ := F.ow _ (.head _)
  have hit : s.heap.IsListIter it l i := ⟨o, ho, hc, hd⟩
  unfold pyNext
  refine wpAny_bind (wpAny_attempt (wpAny_callSpecial?_slot (name := Str.ofString "__next__") hT slot_map_next (wpAny_call_entry slot_map_next hT entry_map_next ?_ (args_map_next _))))
  show wpAny _ _ (field (.ref mp) 0 >>= _) _ _ _
  refine wpAny_bind (wpAny_field hmp rfl (x := .ref tu) rfl ?_)
  refine wpAny_bind (wpAny_seqItems htu rfl ?_)
  show wpAny _ _ (forIn (#[Value.ref it] : Array Value) _ _ >>= _) _ _ _
  rw [← Array.forIn_toList]
  simp only [List.forIn_cons, List.forIn_nil, bind_assoc, pure_bind]
  refine wpAny_bind (wpAny_holding (wpAny_nextOf_list_end hh hit (hl.ext F.frz).list (by simpa using hv) fun h' e hx he => ?_))
  obtain ⟨oe, hoe, hce⟩ := he
  refine wpAny_bind (wpAny_isInstance (T := "StopIteration") (b := true) ⟨oe, hoe, hce⟩ isSubtype_stop ?_)
  exact wpAny_pure (q _ (F.lose (k := s.toks) (d := s.drawn) hx (Nat.le_refl _)))
theorem map_loop {mp it f l S : Addr} {vs : List Value} {res : Value} (hh : c.A.handled = none) (hm : Mp B mp it f) (hl : Ls B l vs) (hz : vs.length ≤ sizeLine)
    (hf : ∀ u B' own' v, v ∈ vs → Bs c.n B B' → GV (atU c u) B' m own' (call (.ref f) [v]) fun _ r => r = v) :
    ∀ k i s B' (R : Result → Shared → Prop), vs.length - i = k → i ≤ vs.length → Bs c.n B B' → Fm c B' m ((it, isLI l i) :: (S, isL (vs.take i)) :: own) s → (∀ s' B'', Bs c.n B' B'' → Fm c B'' m ((S, isL vs) :: own) s' → R (.ok (.ret res)) s') →
      codeAny (Md c.w) c.A (.builtin "list.extend.loop" ⟨[.ref S, .ref mp, res], []⟩) R s := by
  intro k
  induction k with
  | zero =>
    intro i s B' R hk hi b F hR
    have hin : i = vs.length := by omega
    subst hin
    rw [List.take_length] at F
    refine codeAny_builtin PySem.F.entry_extend_loop ?_
    rw [Around.under_plainId PySem.F.plain_extend_loop _]
    show wpAny _ c.A.in1 (pyNext (.ref mp) >>= _) _ _ s
    refine wpAny_bind (map_end (c := atU c (c.A.units + 1)) hh (hm.ext b.ext) (hl.ext b.ext) (by simp) s _ _ F.atU fun s' F' => ?_)
    exact wpAny_pure (hR s' B' (Bs.refl _ _) F'.ofU)
  | succ k ih =>
    intro i s B' R hk hi b F hR
    have hlt : i < vs.length := by omega
    refine codeAny_builtin PySem.F.entry_extend_loop ?_
    rw [Around.under_plainId PySem.F.plain_extend_loop _]
    show wpAny _ c.A.in1 (pyNext (.ref mp) >>= _) _ _ s
    refine wpAny_bind (map_item (c := atU c (c.A.units + 1)) (v := vs[i]) (hm.ext b.ext) (hl.ext b.ext) (by simp [hlt]) (hf _ B' _ _ (List.getElem_mem hlt) b) s _ _ F.atU fun r s' B2 b2 F2 hr => ?_)
    subst hr
    show wpAny _ c.A.in1 (updateSeq S (·.push vs[i]) >>= _) _ _ _
    have F3 := F2.ofU
    obtain ⟨o, ho, n, rfl⟩ := F3.ow _ (.tail _ (.head _))
    have F4 := Fm.mapL (pre := [(it, isLI l (i + 1))]) (vs := vs.take i) (ws := vs.take (i + 1)) (f := (·.push vs[i])) F3 (by rw [List.take_add_one]; simp [hlt])
    refine wpAny_bind (wpAny_updateSeq ho rfl (wpAny_pure ⟨plainId_quiet PySem.F.plain_extend_loop _, ih (i + 1) _ B2 _ (by omega) hlt (b.trans b2) F4 fun s'' B3 b3 F5 => hR s'' B3 (b2.trans b3) F5⟩) (by simp; omega) (by simp; omega))
theorem collect_map {mp it f l : Addr} {vs : List Value} (hh : c.A.handled = none) (hm : Mp B mp it f) (hl : Ls B l vs) (hz : vs.length ≤ sizeLine)
    (hf : ∀ u B' own' v, v ∈ vs → Bs c.n B B' → GV (atU c u) B' m own' (call (.ref f) [v]) fun _ r => r = v) :
    ∀ s (Q : List Value → Shared → Prop) E, Fm c B m ((it, isLI l 0) :: own) s → (∀ s' B', Bs c.n B B' → Fm c B' m own s' → Q vs s') → wpAny (Md c.w) c.A (collect (.ref mp)) Q E s := fun s Q E F q => by
  have hmp : mp < s.heap.objs.size := by obtain ⟨tu, _, h⟩ := hm.ext F.frz; exact Heap.lt_size h
  have hSI : s.heap.objs.size ≠ mp := Nat.ne_of_gt hmp
  unfold collect
  refine wpAny_bind (wpAny_runValue (codeAny_builtin PySem.F.entry_proto_collect ?_))
  rw [Around.under_plainId PySem.F.plain_proto_collect _]
  show wpAny _ c.A.in1 (newList [] >>= fun l => again (.builtin "list.__iadd__" ⟨[l, .ref mp], []⟩)) _ _ s
  refine wpAny_bind (wpAny_newObj_type ?_)
  refine wpAny_pure ⟨plainId_quiet PySem.F.plain_list_iadd _, codeAny_builtin PySem.F.entry_list_iadd ?_⟩
  rw [Around.under_plainId PySem.F.plain_list_iadd _]
  have g : Grow s { s with heap := s.heap.push { cls := .type "list", data := .seq ([] : List Value).toArray } } := ⟨fun b o e => Heap.get?_push_of_some _ e, by simp, rfl, rfl⟩
  obtain ⟨b1, F1⟩ := F.grow g F.tk
  have F2 := F1.take (b1.low F.size) (P := isL []) F.fresh (grown_new (Heap.get?_push_size _ rfl) (Nat.le_refl _)) ⟨0, rfl⟩
  have b2 := less_bs (b1.low F.size) F.fresh
  generalize less (grown B s _) s.heap.objs.size = B2 at F2 b2
  have hT := (hm.ext b2.ext).ext F2.frz |>.typeIs
  show wpAny _ c.A.in1 (Builtin.List.listExtendWith (.ref s.heap.objs.size) (.ref mp) (.ref s.heap.objs.size)) _ _ _
  unfold Builtin.List.listExtendWith
  refine wpAny_bind (wpAny_typeOf hT ?_)
  have h1 : Builtin.List.listSameRef (.ref s.heap.objs.size) (.ref mp) = false := by simp [Builtin.List.listSameRef, hSI]
  have h2 : (Value.type "map" == Value.type "list") = false := by decide
  have h3 : (Value.type "map" == Value.type "tuple") = false := by decide
  simp only [h1, h2, h3, Bool.or_false, Bool.false_eq_true, if_false]
  refine wpAny_bind (wpAny_pyIter_slot hT slot_map_iter' (wpAny_call_entry slot_map_iter' hT entry_map_iter ?_ (args_map_iter _)))
  show wpAny _ _ (ret (.ref mp)) _ _ _
  refine wpAny_pure ⟨_, rfl, "map", _, hT, slot_map_next.lookup, ?_⟩
  refine wpAny_bind (wpAny_holding ?_)
  unfold Builtin.List.listLengthHint
  refine wpAny_bind (wpAny_specialOf hT map_no_len ?_)
  show wpAny _ c.A.in1 (specialOf (Value.ref mp) (Str.ofString "__length_hint__") >>= _) _ _ _
  refine wpAny_bind (wpAny_specialOf hT map_no_hint ?_)
  refine wpAny_pure ?_
  show wpAny _ c.A.in1 (rule "list.extend.makes-room" >>= fun _ => Builtin.List.listTouch (.ref s.heap.objs.size) >>= fun _ =>
    again (.builtin "list.extend.loop" ⟨[.ref s.heap.objs.size, .ref mp, .ref s.heap.objs.size], []⟩)) _ _ _
  refine wpAny_bind (wpAny_rule ?_)
  refine wpAny_bind ?_
  show wpAny _ c.A.in1 (updateSeq s.heap.objs.size (·.push .none) >>= fun _ => updateSeq s.heap.objs.size (·.pop)) _ _ _
  obtain ⟨o2, ho2, n2, rfl⟩ := F2.ow _ (.head _)
  refine wpAny_bind (wpAny_updateSeq ho2 rfl ?_)
  have F3 := Fm.mapL (pre := []) (vs := []) (ws := [Value.none]) (f := (·.push Value.none)) F2 (by simp)
  obtain ⟨o3, ho3, n3, rfl⟩ := F3.ow _ (.head _)
  refine wpAny_updateSeq ho3 rfl ?_
  have F4 := Fm.mapL (pre := []) (vs := [Value.none]) (ws := []) (f := (·.pop)) F3 (by simp)
  have F5 := F4.perm (List.Perm.swap (it, isLI l 0) (s.heap.objs.size, isL []) own)
  refine wpAny_pure ⟨plainId_quiet PySem.F.plain_extend_loop _, map_loop (own := own) hh (hm.ext b2.ext) (hl.ext b2.ext) hz (fun u B' own' v hv b => hf u B' own' v hv (b2.trans b)) vs.length 0 _ B2 _ rfl (Nat.zero_le _) (Bs.refl _ _) F5 fun s' B3 b3 F6 => ?_⟩
  obtain ⟨o6, ho6, n6, rfl⟩ := F6.ow _ (.head _)
  show wpAny _ c.A (load s.heap.objs.size >>= _) _ _ s'
  refine wpAny_bind (wpAny_load ho6 ?_)
  exact wpAny_pure (q s' B3 (b2.trans b3) F6.drop)
theorem gx_tuple_map {mp it f l : Addr} {vs : List Value} (hh : c.A.handled = none) (hm : Mp B mp it f) (hl : Ls B l vs) (hz : vs.length ≤ sizeLine)
    (hf : ∀ u B' own' v, v ∈ vs → Bs c.n B B' → GV (atU c u) B' m own' (call (.ref f) [v]) fun _ r => r = v) :
    GX c B m ((it, isLI l 0) :: own) (call (.type "tuple") [.ref mp]) fun B' own' v => ∃ a, v = .ref a ∧ own' = own ∧ B.get? a = none ∧ Tu B' a vs :=
  ⟨fun s Q E F q => by
    refine callType_codes (Q₁ := fun obj s₁ => s₁.TypeIs obj "tuple" ∧ Q obj s₁) PySem.F.called_tuple (PySem.F.typeCall_tuple_1 _) PySem.F.entry_object_init ?_ fun obj s₁ h₁ => ⟨h₁.1, PySem.F.args_object_init_2 obj _, object_init_meets PySem.F.called_tuple.init.lookup PySem.F.called_tuple.made (by decide) _ _ c.A.in1 _ s₁ ⟨h₁.1, rfl, h₁.2⟩⟩
    refine codeAny_of_tree ?_
    show wpAny _ _ (do checkBuiltinCall "tuple.__new__" ⟨[.type "tuple", .ref mp], []⟩; again (.builtin "tuple.__new__" ⟨[.type "tuple", .ref mp], []⟩)) _ _ s
    refine wpAny_bind (wpAny_of_eq (PySem.F.newCall_tuple_1 _) (wpAny_pure ⟨plainId_quiet PySem.F.plain_tuple_new _, codeAny_builtin PySem.F.entry_tuple_new ?_⟩))
    rw [Around.under_plainId PySem.F.plain_tuple_new _]
    have hsub := sub_tuple_self
    have hinit := init_tuple_lookup
    have hmh := madeHere_tuple
    have hTI := (hm.ext F.frz).typeIs
    have hC := fun Q E => collect_map (c := atU c (c.A.units + 2)) (own := own) hh hm hl hz (fun u B' own' v hv b => hf u B' own' v hv b) s Q E F.atU
    wp_walk using wpAny_typeOf hTI, hC
    intro s' B' b F'
    show wpAny _ _ (Builtin.Tuple.tupleExact vs.toArray >>= fun v => ret v) _ _ _
    unfold Builtin.Tuple.tupleExact
    refine wpAny_bind (wpAny_newObj_type ?_ (by show vs.toArray.size ≤ sizeLine; simpa using hz))
    refine wpAny_pure ?_
    have F2 := F'.ofU
    have g : Grow s' { s' with heap := s'.heap.push { cls := .type "tuple", data := .seq vs.toArray } } := ⟨fun b o e => Heap.get?_push_of_some _ e, by simp, rfl, rfl⟩
    obtain ⟨b3, F3⟩ := F2.grow g F2.tk
    refine ⟨⟨_, Heap.get?_push_size _ rfl, rfl⟩, q _ _ _ _ (b.trans (b3.low F2.size)) F3 ⟨_, rfl, rfl, ?_, grown_new (Heap.get?_push_size _ rfl) (Nat.le_refl _)⟩⟩
    exact bs_none b F2.fresh⟩
end
end Mine

end
section
open PySem PySem.W PyProof.Rows
set_option Elab.async false
set_option autoImplicit false
set_option linter.unusedVariables false
set_option maxRecDepth 100000
namespace Mine
/-! texts cut at one sign -/
theorem inter_cons2 (sep x y : List Nat) (r : List (List Nat)) : List.intercalate sep (x :: y :: r) = x ++ (sep ++ List.intercalate sep (y :: r)) := by simp [List.intercalate]
theorem inter_one (sep x : List Nat) : List.intercalate sep [x] = x := by simp [List.intercalate]
theorem free_cut {c : Nat} : ∀ {a b x y : List Nat}, c ∉ a → c ∉ b → a ++ c :: x = b ++ c :: y → a = b ∧ x = y
  | [], [], x, y, _, _, h => ⟨rfl, by simpa using h⟩
  | [], b :: bs, x, y, _, hb, h => by simp at h; exact absurd h.1 (fun e => hb (by simp [e]))
  | a :: as, [], x, y, ha, _, h => by simp at h; exact absurd h.1 (fun e => ha (by simp [e]))
  | a :: as, b :: bs, x, y, ha, hb, h => by
    simp only [List.cons_append, List.cons.injEq] at h
    obtain ⟨h1, h2⟩ := free_cut (fun q => ha (List.mem_cons_of_mem _ q)) (fun q => hb (List.mem_cons_of_mem _ q)) h.2
    exact ⟨by rw [h.1, h1], h2⟩
theorem inter_inj {c : Nat} : ∀ {xs ys : List (List Nat)}, xs ≠ [] → ys ≠ [] → (∀ x ∈ xs, c ∉ x) → (∀ y ∈ ys, c ∉ y) → List.intercalate [c] xs = List.intercalate [c] ys → xs = ys
  | [], _, h, _, _, _, _ => absurd rfl h
  | _, [], _, h, _, _, _ => absurd rfl h
  | [x], [y], _, _, _, _, h => by rw [inter_one, inter_one] at h; rw [h]
  | [x], y :: z :: r, _, _, hx, hy, h => by
    rw [inter_one, inter_cons2] at h
    exact absurd (show c ∈ x by rw [h]; simp) (hx x (by simp))
  | x :: z :: r, [y], _, _, hx, hy, h => by
    rw [inter_one, inter_cons2] at h
    exact absurd (show c ∈ y by rw [← h]; simp) (hy y (by simp))
  | x :: x' :: r, y :: y' :: r', _, _, hx, hy, h => by
    rw [inter_cons2, inter_cons2] at h
    obtain ⟨h1, h2⟩ := free_cut (hx x (by simp)) (hy y (by simp)) h
    rw [h1, inter_inj (by simp) (by simp) (fun a ha => hx a (List.mem_cons_of_mem _ ha)) (fun a ha => hy a (List.mem_cons_of_mem _ ha)) h2]
theorem split_ne (x : Str) (c : Nat) : Txt.split x ⟨#[c]⟩ ≠ [] := by
  unfold Txt.split
  split
  · simp
  · split
    · simp
    · rw [StrLaws.partsBetween_eq]
      obtain ⟨p, r, e⟩ := StrLaws.partsFrom_ne x (⟨#[c]⟩ : Str).length 0 (Builtin.Str.occurrences x ⟨#[c]⟩ 0 x.length (x.length + 1))
      rw [e]; simp
theorem map_S (l : List Str) : l = (l.map fun x => x.cps.toList).map S := by
  induction l with
  | nil => rfl
  | cons x r ih => rw [List.map_cons, List.map_cons, ← ih, ← S_eq]
theorem split_inter {c : Nat} {xs : List (List Nat)} (hn : xs ≠ []) (hf : ∀ x ∈ xs, c ∉ x) : Txt.split (S (List.intercalate [c] xs)) (S [c]) = xs.map S := by
  have h1 := StrLaws.join_split (S (List.intercalate [c] xs)) ⟨#[c]⟩
  have h2 := StrLaws.split_free (S (List.intercalate [c] xs)) c
  have h3 := split_ne (S (List.intercalate [c] xs)) c
  show Txt.split (S (List.intercalate [c] xs)) ⟨#[c]⟩ = _
  generalize Txt.split (S (List.intercalate [c] xs)) ⟨#[c]⟩ = P at h1 h2 h3
  rw [map_S P] at h1 ⊢
  have h1' : Str.join (S [c]) ((P.map fun x => x.cps.toList).map S) = S (List.intercalate [c] xs) := h1
  rw [joinS] at h1'
  rw [inter_inj (by simpa using h3) hn (fun y hy => ?_) hf (S_inj h1')]
  obtain ⟨p, hp, rfl⟩ := List.mem_map.mp hy
  exact h2 p hp
theorem replace_inter {c : Nat} {z : List Nat} {xs : List (List Nat)} (hn : xs ≠ []) (hf : ∀ x ∈ xs, c ∉ x) : Txt.replace (S (List.intercalate [c] xs)) (S [c]) (S z) = S (List.intercalate z xs) := by
  have := StrLaws.replace_one (S (List.intercalate [c] xs)) (S z) c
  refine this.trans ?_
  have e : Txt.split (S (List.intercalate [c] xs)) ⟨#[c]⟩ = xs.map S := split_inter hn hf
  rw [e, joinS]
theorem partsFrom_len (x : Str) (w : Nat) : ∀ (cuts : List Nat) (a : Nat), (StrLaws.partsFrom x w a cuts).length = cuts.length + 1
  | [], a => by simp [StrLaws.partsFrom]
  | i :: r, a => by simp [StrLaws.partsFrom, partsFrom_len x w r]
theorem count_split (x : Str) (c : Nat) : Txt.count x ⟨#[c]⟩ + 1 = (Txt.split x ⟨#[c]⟩).length := by
  unfold Txt.count Txt.split
  split
  · rename_i h
    have hfree : c ∉ x.cps.toList := StrLaws.split_free x c x (by unfold Txt.split; rw [if_pos h]; exact List.mem_singleton.mpr rfl)
    have : Builtin.Str.occurrences x ⟨#[c]⟩ 0 x.length (x.length + 1) = [] := by
      obtain ⟨f, h⟩ := StrLaws.occ_chain x ⟨#[c]⟩ (x.length + 1)
      cases ho : Builtin.Str.occurrences x ⟨#[c]⟩ 0 x.length (x.length + 1) with
      | nil => rfl
      | cons i r =>
        rw [ho] at h
        exact absurd (List.mem_of_getElem? ((StrLaws.subAt_one x c i).mp h.2.1)) hfree
    rw [this]; rfl
  · split
    · rename_i h
      rw [List.isEmpty_iff] at h
      rw [h]; rfl
    · rw [StrLaws.partsBetween_eq, partsFrom_len]; rfl
theorem count_inter {c : Nat} {xs : List (List Nat)} (hn : xs ≠ []) (hf : ∀ x ∈ xs, c ∉ x) : Txt.count (S (List.intercalate [c] xs)) (S [c]) + 1 = xs.length := by
  have := count_split (S (List.intercalate [c] xs)) c
  refine this.trans ?_
  have e := split_inter hn hf
  have e' : Txt.split (S (List.intercalate [c] xs)) ⟨#[c]⟩ = xs.map S := e
  rw [e', List.length_map]
/-! the dressed path -/
noncomputable def dr : List (List Nat) → List Nat
  | [] => [47, 47]
  | r :: rs => 47 :: 47 :: List.intercalate [47, 47] (r :: rs)
theorem dr_eq (rs : List (List Nat)) : dr rs = [47, 47] ++ List.intercalate [47, 47] rs := by cases rs <;> simp [dr, List.intercalate]
theorem inter_empty_cons (sep : List Nat) (rs : List (List Nat)) (h : rs ≠ []) : List.intercalate sep ([] :: rs) = sep ++ List.intercalate sep rs := by
  cases rs with
  | nil => exact absurd rfl h
  | cons x r => rw [inter_cons2]; rfl
theorem dress_rows {rs : List (List Nat)} (hn : rs ≠ []) (hf : ∀ x ∈ rs, 47 ∉ x) : Txt.replace (S ([47] ++ List.intercalate [47] rs)) (S [47]) (S [47, 47]) = S (dr rs) := by
  rw [← inter_empty_cons _ rs hn, replace_inter (by simp) (by simpa using hf), inter_empty_cons _ rs hn, dr_eq]
theorem dress_nil : Txt.replace (S [47]) (S [47]) (S [47, 47]) = S (dr []) := by
  have := replace_inter (c := 47) (z := [47, 47]) (xs := [[], []]) (by simp) (by simp)
  simpa [List.intercalate, dr] using this
theorem inter_snoc (sep : List Nat) : ∀ (rs : List (List Nat)) (r : List Nat), rs ≠ [] → List.intercalate sep (rs ++ [r]) = List.intercalate sep rs ++ sep ++ r
  | [], _, h => absurd rfl h
  | [x], r, _ => by simp [List.intercalate]
  | x :: y :: t, r, _ => by
    have ih := inter_snoc sep (y :: t) r (by simp)
    rw [List.cons_append, List.cons_append, inter_cons2, ← List.cons_append, ih, inter_cons2]
    simp
theorem dr_snoc (rs : List (List Nat)) (r : List Nat) : dr (rs ++ [r]) = (if rs = [] then [47, 47] else dr rs ++ [47, 47]) ++ r := by
  rw [dr_eq]
  split
  · rename_i h; subst h; simp [List.intercalate]
  · rename_i h
    rw [inter_snoc _ _ _ h, dr_eq]; simp
theorem rfind_last {h r : List Nat} {c : Nat} (hr : c ∉ r) : Txt.rfind (S (h ++ c :: r)) (S [c]) = (h.length : Int) := by
  unfold Txt.rfind
  have key : ∀ i, StrLaws.At (S (h ++ c :: r)) ⟨#[c]⟩ (S (h ++ c :: r)).length i ↔ (h ++ c :: r)[i]? = some c := fun i => StrLaws.subAt_one (S (h ++ c :: r)) c i
  have up : ∀ k, h.length < k → (h ++ c :: r)[k]? ≠ some c := fun k hk e => by
    rw [List.getElem?_append_right (by omega), List.getElem?_cons] at e
    split at e
    · omega
    · exact hr (List.mem_of_getElem? e)
  have hat : (h ++ c :: r)[h.length]? = some c := by simp
  rcases StrLaws.last_spec (S (h ++ c :: r)) ⟨#[c]⟩ with ⟨_, h2⟩ | ⟨i, h1, h2, h3⟩
  · exact absurd ((key _).mpr hat) (h2 _)
  · have e : i = h.length := by
      rcases Nat.lt_trichotomy i h.length with q | q | q
      · exact absurd ((key _).mpr hat) (h3 _ q)
      · exact q
      · exact absurd ((key _).mp h2) (up _ q)
    have h1' : Builtin.Str.lastOccurrence (S (h ++ c :: r)) (S [c]) 0 (S (h ++ c :: r)).length = some i := h1
    rw [h1', e]
theorem tail_last {h r : List Nat} (hr : 47 ∉ r) : tailOf (S (h ++ 47 :: r)) = S r := by
  unfold tailOf
  rw [show ("/" : Str) = S [47] from rfl, rfind_last hr]
  have := sl_from (l := h ++ 47 :: r) (n := h.length + 1) (by simp)
  rw [show ((h.length : Int) + 1) = ((h.length + 1 : Nat) : Int) by omega, this]
  congr 1
  rw [show h ++ 47 :: r = (h ++ [47]) ++ r by simp, List.drop_left' (by simp)]
theorem ne_empty {l : List Nat} : (S l != Str.empty) = !l.isEmpty := by
  cases l with
  | nil => rfl
  | cons a r => rfl
end Mine

end
section
open PySem PySem.W PyProof.Rows
set_option Elab.async false
set_option autoImplicit false
set_option linter.unusedVariables false
set_option maxRecDepth 100000
namespace Mine
theorem foldl_rep : ∀ (n : Nat) (acc : Array Nat), (∀ ch ∈ acc.toList, ch = 47) → ∀ ch ∈ ((List.replicate n (#[47] : Array Nat)).foldl (· ++ ·) acc).toList, ch = 47
  | 0, acc, h => h
  | n + 1, acc, h => by
    rw [List.replicate_succ, List.foldl_cons]
    refine foldl_rep n _ fun ch hch => ?_
    rw [Array.toList_append, List.mem_append] at hch
    rcases hch with q | q
    · exact h ch q
    · simpa using q
theorem mul_all (n : Int) : ∀ ch ∈ (Txt.mul (S [47]) n).cps.toList, ch = 47 := by
  unfold Txt.mul
  split
  · intro ch h; exact absurd h List.not_mem_nil
  · split
    · intro ch h; simpa using h
    · exact foldl_rep _ _ (fun ch h => absurd h List.not_mem_nil)
structure Row (r : List Nat) : Prop where
  ne : r ≠ []
  free : 47 ∉ r
theorem dr_last {rs : List (List Nat)} (hn : rs ≠ []) (h : ∀ r ∈ rs, Row r) : ∃ l z, dr rs = l ++ [z] ∧ z ≠ 47 := by
  rcases List.eq_nil_or_concat rs with e | ⟨t, r, rfl⟩
  · exact absurd e hn
  · rw [List.concat_eq_append] at h hn ⊢
    have g := h r (by simp)
    rcases List.eq_nil_or_concat r with e | ⟨q, z, rfl⟩
    · exact absurd e g.ne
    · rw [List.concat_eq_append] at g ⊢
      rw [dr_snoc]
      refine ⟨(if t = [] then [47, 47] else dr t ++ [47, 47]) ++ q, z, by simp, fun e => g.free (by simp [e])⟩
theorem head_last {rs : List (List Nat)} {r : List Nat} (h : ∀ r ∈ rs, Row r) (hr : 47 ∉ r) : headOf (S (dr (rs ++ [r]))) = S (dr rs) := by
  rw [dr_snoc]
  split
  · rename_i e
    subst e
    have hs : Txt.slice (S ([47, 47] ++ r)) none (some (Txt.rfind (S ([47, 47] ++ r)) "/" + 1)) = S [47, 47] := by
      rw [show [47, 47] ++ r = [47] ++ 47 :: r by rfl, show ("/" : Str) = S [47] from rfl, rfind_last hr]
      have := sl_to (l := [47] ++ 47 :: r) (n := 2) (by simp)
      exact this
    unfold headOf
    rw [hs, if_neg (by decide +kernel)]
    rfl
  · rename_i hn
    obtain ⟨l, z, e, hz⟩ := dr_last hn h
    have hs : Txt.slice (S (dr rs ++ [47, 47] ++ r)) none (some (Txt.rfind (S (dr rs ++ [47, 47] ++ r)) "/" + 1)) = S (l ++ [z] ++ [47, 47]) := by
      rw [e, show l ++ [z] ++ [47, 47] ++ r = (l ++ [z] ++ [47]) ++ 47 :: r by simp, show ("/" : Str) = S [47] from rfl, rfind_last hr]
      have := sl_to (l := (l ++ [z] ++ [47]) ++ 47 :: r) (n := (l ++ [z] ++ [47]).length + 1) (by simp; omega)
      refine this.trans ?_
      congr 1
      rw [show (l ++ [z] ++ [47]) ++ 47 :: r = (l ++ [z] ++ [47, 47]) ++ r by simp, List.take_left' (by simp)]
    unfold headOf
    rw [hs, if_pos ?_, e]
    · exact strip_right _ l [47, 47] z (by decide +kernel) (by
        show (S [47]).cps.contains z = false
        simp [hz])
    · rw [Bool.and_eq_true]
      refine ⟨by rw [ne_empty]; simp, bne_iff_ne.mpr fun q => hz ?_⟩
      have q' : S (l ++ [z] ++ [47, 47]) = Txt.mul (S [47]) ((S (l ++ [z] ++ [47, 47])).length : Int) := q
      have h3 := mul_all ((S (l ++ [z] ++ [47, 47])).length : Int) z
      rw [← q'] at h3
      exact h3 (by simp)
theorem tail_dr {rs : List (List Nat)} {r : List Nat} (hr : 47 ∉ r) : tailOf (S (dr (rs ++ [r]))) = S r := by
  rw [dr_snoc]
  split
  · exact tail_last (h := [47]) hr
  · have := tail_last (h := dr rs ++ [47]) hr
    rwa [show dr rs ++ [47] ++ 47 :: r = dr rs ++ [47, 47] ++ r by simp] at this
theorem splitN_dr : ∀ (n : Nat) (rs tl : List (List Nat)), rs.length = n → (∀ r ∈ rs, Row r) → splitN n (S (dr rs)) (tl.map S) = (S [47, 47], (rs ++ tl).map S)
  | 0, rs, tl, hn, _ => by
    have : rs = [] := List.length_eq_zero_iff.mp hn
    subst this
    rfl
  | n + 1, rs, tl, hn, h => by
    rcases List.eq_nil_or_concat rs with e | ⟨t, r, rfl⟩
    · subst e; simp at hn
    · rw [List.concat_eq_append] at h hn ⊢
      have hr := (h r (by simp)).free
      have ht : ∀ r ∈ t, Row r := fun a ha => h a (by simp [ha])
      unfold splitN
      rw [head_last ht hr, tail_dr hr]
      have := splitN_dr n t (r :: tl) (by simpa using hn) ht
      rw [List.map_cons] at this
      rw [this]; simp
/-! join -/
theorem starts_free {b : List Nat} (h : 47 ∉ b) : Txt.startswith (S b) (S [47]) = false := by
  unfold Txt.startswith
  rw [StrLaws.subAt_eq]
  show (_ && (b.drop 0).take 1 == [47]) = false
  rw [Bool.and_eq_false_iff]
  right
  rw [beq_eq_false_iff_ne]
  intro e
  refine h ?_
  have : 47 ∈ (b.drop 0).take 1 := by rw [e]; simp
  exact List.mem_of_mem_drop (List.mem_of_mem_take this)
theorem ends_last (d : List Nat) (z : Nat) : Txt.endswith (S (d ++ [z])) (S [47]) = (z == 47) := by
  unfold Txt.endswith
  rw [StrLaws.subAt_eq, S_len, S_len]
  show (decide (1 ≤ (d ++ [z]).length) && ((d ++ [z]).drop ((d ++ [z]).length - 1)).take 1 == [47]) = _
  rw [show (d ++ [z]).length - 1 = d.length by simp, List.drop_left]
  simp
theorem join_rows : ∀ (rs : List (List Nat)) (l : List Nat) (z : Nat), z ≠ 47 → (∀ r ∈ rs, Row r) → (rs.map S).foldl joinOf (S (l ++ [z])) = S (l ++ [z] ++ rs.flatMap fun r => 47 :: r)
  | [], l, z, _, _ => by simp
  | r :: rs, l, z, hz, h => by
    have g := h r (by simp)
    rcases List.eq_nil_or_concat r with e | ⟨q, y, rfl⟩
    · exact absurd e g.ne
    · rw [List.concat_eq_append] at g h ⊢
      have hy : y ≠ 47 := fun e => g.free (by simp [e])
      rw [List.map_cons, List.foldl_cons]
      have : joinOf (S (l ++ [z])) (S (q ++ [y])) = S ((l ++ [z] ++ 47 :: q) ++ [y]) := by
        unfold joinOf
        rw [show ("/" : Str) = S [47] from rfl, starts_free g.free, ends_last, ne_empty, if_neg (by simp), if_neg (by simpa using hz)]
        show S (l ++ [z]) ++ (S [47] ++ S (q ++ [y])) = _
        rw [S_app, S_app]
        simp
      rw [this, join_rows rs _ y hy fun a ha => h a (by simp [ha])]
      simp
theorem flatMap_inter (sep : List Nat) : ∀ (rs : List (List Nat)) (r : List Nat), List.intercalate sep (r :: rs) = r ++ rs.flatMap fun x => sep ++ x
  | [], r => by simp [inter_one]
  | x :: rs, r => by rw [inter_cons2, flatMap_inter sep rs x, List.flatMap_cons]; simp
theorem join_all {rs : List (List Nat)} (hn : rs ≠ []) (h : ∀ r ∈ rs, Row r) : (rs.map S).foldl joinOf (S [47, 47]) = S ([47, 47] ++ List.intercalate [47] rs) := by
  cases rs with
  | nil => exact absurd rfl hn
  | cons r rs =>
    have g := h r (by simp)
    rcases List.eq_nil_or_concat r with e | ⟨q, y, rfl⟩
    · exact absurd e g.ne
    · rw [List.concat_eq_append] at g h ⊢
      have hy : y ≠ 47 := fun e => g.free (by simp [e])
      rw [List.map_cons, List.foldl_cons]
      have : joinOf (S [47, 47]) (S (q ++ [y])) = S (([47, 47] ++ q) ++ [y]) := by
        unfold joinOf
        rw [show ("/" : Str) = S [47] from rfl, starts_free g.free, show S [47, 47] = S ([47] ++ [47]) from rfl, ends_last, ne_empty, if_neg (by simp), if_pos (by rfl)]
        show S [47, 47] ++ S (q ++ [y]) = _
        rw [S_app]; simp
      rw [this, join_rows rs _ y hy fun a ha => h a (by simp [ha]), flatMap_inter]
      simp
/-! cut at slashes -/
theorem dr_flat {rs : List (List Nat)} (hn : rs ≠ []) : dr rs = rs.flatMap fun r => [47, 47] ++ r := by
  cases rs with
  | nil => exact absurd rfl hn
  | cons r rs => rw [dr_eq, flatMap_inter, List.flatMap_cons]; simp
theorem dr_pieces {rs : List (List Nat)} (hn : rs ≠ []) : dr rs = List.intercalate [47] ([] :: rs.flatMap fun r => [[], r]) := by
  rw [dr_flat hn, flatMap_inter]
  clear hn
  induction rs with
  | nil => rfl
  | cons r rs ih => rw [List.flatMap_cons, List.flatMap_cons, List.flatMap_append, ih]; simp
theorem split_dr {rs : List (List Nat)} (hn : rs ≠ []) (h : ∀ r ∈ rs, Row r) : Txt.split (S (dr rs)) (S [47]) = ([] :: rs.flatMap fun r => [[], r]).map S := by
  rw [dr_pieces hn]
  refine split_inter (by simp) fun x hx => ?_
  rcases List.mem_cons.mp hx with rfl | hx
  · simp
  · obtain ⟨r, hr, hx⟩ := List.mem_flatMap.mp hx
    rcases List.mem_cons.mp hx with rfl | hx
    · simp
    · rw [List.mem_singleton.mp hx]; exact (h r hr).free
theorem filter_pieces {rs : List (List Nat)} (h : ∀ r ∈ rs, Row r ∧ r ≠ [46]) : ([] :: rs.flatMap fun r => [[], r]).filter (fun x => x != [] && x != [46]) = rs := by
  rw [List.filter_cons_of_neg (by simp)]
  induction rs with
  | nil => rfl
  | cons r rs ih =>
    obtain ⟨g, g'⟩ := h r (by simp)
    rw [List.flatMap_cons, List.filter_append, ih fun a ha => h a (by simp [ha])]
    rw [List.filter_cons_of_neg (by simp), List.filter_cons_of_pos (by simp [g.ne, g']), List.filter_nil]
    rfl
end Mine

end
section
open PySem PySem.W PyProof.Rows
set_option Elab.async false
set_option autoImplicit false
set_option linter.unusedVariables false
set_option maxRecDepth 100000
namespace Mine
/-! rows of a name -/
theorem enc_cons (ch : Nat) (n : List Nat) : enc (ch :: n) = codeOf ch ++ enc n := by simp [enc]
theorem takeRow_k (w : Nat) : ∀ (n row : List Nat), ∃ k, k ≤ n.length ∧ takeRow w row (n.map codeOf) = (row ++ enc (n.take k), (n.drop k).map codeOf) ∧ (k = n.length → row.length < w → (row ++ enc n).length < w) ∧
    ((∃ ch ∈ n.head?, (row ++ codeOf ch).length < w) → 1 ≤ k)
  | [], row => ⟨0, by simp, by simp [takeRow, enc], fun _ h => by simpa [enc] using h, fun ⟨ch, h, _⟩ => by simp at h⟩
  | ch :: n, row => by
    by_cases hc : (row ++ codeOf ch).length < w
    · obtain ⟨k, h1, h2, h3, h4⟩ := takeRow_k w n (row ++ codeOf ch)
      refine ⟨k + 1, by simp; omega, ?_, fun e _ => ?_, fun _ => by omega⟩
      · rw [List.map_cons, takeRow, if_pos hc, h2, List.take_succ_cons, List.drop_succ_cons, enc_cons]
        simp
      · have := h3 (by simpa using e) hc
        rw [enc_cons]
        simpa using this
    · refine ⟨0, by simp, ?_, fun e => by simp at e, ?_⟩
      · rw [List.map_cons, takeRow, if_neg hc]; simp [enc]
      · rintro ⟨ch', h, h'⟩
        simp at h
        subst h
        exact absurd h' hc
theorem segs_ex {w : Nat} (hw : 4 ≤ w) : ∀ (f : Nat) (n : List Nat), n ≠ [] → n.length ≤ f → ∃ (ini : List (List Nat)) (l : List Nat), rowsOf w f (n.map codeOf) = (ini.map fun s => rowOf (s, true)) ++ [rowOf (l, false)] ∧ ini.flatten ++ l = n ∧ (∀ s ∈ ini, s ≠ []) ∧ l ≠ []
  | 0, n, hn, hf => absurd (List.length_eq_zero_iff.mp (Nat.le_zero.mp hf)) hn
  | f + 1, n, hn, hf => by
    unfold rowsOf
    split
    · rename_i hlt
      obtain ⟨k, h1, h2, h3, h4⟩ := takeRow_k w n []
      rw [h2]
      obtain ⟨ch, n', rfl⟩ := List.exists_cons_of_ne_nil hn
      have hk1 : 1 ≤ k := h4 ⟨ch, by simp, by have := (codeOf_len ch).2; simp; omega⟩
      have hk2 : k ≠ (ch :: n').length := fun e => by
        have := h3 e (by simp; omega)
        unfold enc at this
        simp only [List.nil_append] at this
        omega
      have hdl : ((ch :: n').drop k).length = (ch :: n').length - k := List.length_drop
      have hd : (ch :: n').drop k ≠ [] := fun e => by rw [e] at hdl; simp at hdl; simp at h1 hk2; omega
      obtain ⟨ini, l, e1, e2, e3, e4⟩ := segs_ex hw f ((ch :: n').drop k) hd (by rw [hdl]; omega)
      refine ⟨(ch :: n').take k :: ini, l, ?_, ?_, fun s hs => ?_, e4⟩
      · dsimp only
        rw [e1]; simp [rowOf]
      · rw [List.flatten_cons, List.append_assoc, e2, List.take_append_drop]
      · rcases List.mem_cons.mp hs with rfl | hs
        · intro e
          have := congrArg List.length e
          rw [List.length_take] at this
          simp at this; omega
        · exact e3 s hs
    · refine ⟨[], n, by simp [rowOf, enc], by simp, by simp, hn⟩
/-- the parts of a good name -/
noncomputable def segL (ini : List (List Nat)) (l : List Nat) : List (List Nat × Bool) := ini.map (fun s => (s, true)) ++ [(l, false)]
theorem segL_decd (ini : List (List Nat)) (l : List Nat) : ((segL ini l).map decd).flatten = ini.flatten ++ l ++ [10] := by
  unfold segL
  induction ini with
  | nil => simp [decd]
  | cons s r ih => simp only [List.map_cons, List.cons_append, List.flatten_cons, ih]; simp [decd]
theorem segs {w : Nat} (hw : 4 ≤ w) {n : List Nat} (g : GoodName n) : ∃ ini l, rowsN w n = (segL ini l).map rowOf ∧ (∀ p ∈ segL ini l, GoodSeg p) ∧ ((segL ini l).map decd).flatten = n ++ [10] := by
  obtain ⟨ini, l, e1, e2, e3, e4⟩ := segs_ex hw (n.map codeOf).length n g.ne (by simp)
  refine ⟨ini, l, by unfold rowsN segL; rw [e1]; simp, fun p hp => ?_, by rw [segL_decd, e2]⟩
  unfold segL at hp
  rcases List.mem_append.mp hp with hp | hp
  · obtain ⟨s, hs, rfl⟩ := List.mem_map.mp hp
    have hsub : ∀ ch ∈ s, ch ∈ n := fun ch h => by rw [← e2]; exact List.mem_append_left _ (List.mem_flatten.mpr ⟨s, hs, h⟩)
    have hlen : s.length ≤ n.length := by
      rw [← e2, List.length_append]
      have : s.length ≤ ini.flatten.length := (List.sublist_flatten_of_mem hs).length_le
      omega
    exact ⟨e3 s hs, fun ch h => g.chars ch (hsub ch h), Nat.le_trans hlen g.len, fun h => nomatch h⟩
  · rw [List.mem_singleton.mp hp]
    refine ⟨e4, fun ch h => g.chars ch (by rw [← e2]; exact List.mem_append_right _ h), ?_, fun _ ch h => g.last ch ?_⟩
    · have : l.length ≤ n.length := by rw [← e2, List.length_append]; omega
      exact Nat.le_trans this g.len
    · rw [← e2, List.getLast?_append, show l.getLast? = some ch from h]; rfl
/-! soft and hard rows -/
noncomputable def soft (r : List Nat) : Bool := r.getLast? == some 61
theorem enc_last' {n : List Nat} (hn : n ≠ []) (hc : ∀ ch ∈ n, ch ∈ alpha) : soft (enc n) = false := by
  rcases List.eq_nil_or_concat n with e | ⟨t, ch, rfl⟩
  · exact absurd e hn
  · rw [List.concat_eq_append] at hc ⊢
    have : enc (t ++ [ch]) = enc t ++ codeOf ch := by simp [enc]
    rw [this]
    unfold soft
    rw [List.getLast?_append]
    rcases code_wf (hc ch (by simp)) with ⟨c, e, h⟩ | ⟨x, y, e, _, h⟩
    · rw [e]; simpa using h
    · rw [e]; simpa using h
theorem soft_row {p : List Nat × Bool} (g : GoodSeg p) : soft (rowOf p) = p.2 := by
  obtain ⟨s, b⟩ := p
  cases b with
  | true => simp [soft, rowOf]
  | false =>
    show soft (enc s ++ []) = false
    rw [List.append_nil]
    exact enc_last' g.ne g.chars
theorem code_pre : ∀ a ∈ alpha, ∀ b ∈ alpha, (codeOf a).isPrefixOf (codeOf b) = true → a = b := by decide +kernel
theorem enc_inj : ∀ {a b : List Nat}, (∀ ch ∈ a, ch ∈ alpha) → (∀ ch ∈ b, ch ∈ alpha) → enc a = enc b → a = b
  | [], [], _, _, _ => rfl
  | [], b :: bs, _, _, h => by
    rw [enc_cons] at h
    have := (codeOf_len b).1
    have e : (enc []).length = (codeOf b ++ enc bs).length := congrArg List.length h
    simp [enc] at e; omega
  | a :: as, [], _, _, h => by
    rw [enc_cons] at h
    have := (codeOf_len a).1
    have e : (codeOf a ++ enc as).length = 0 := congrArg List.length h
    rw [List.length_append] at e; omega
  | a :: as, b :: bs, ha, hb, h => by
    rw [enc_cons, enc_cons] at h
    have h1 : codeOf a <+: codeOf b ++ enc bs := ⟨_, h⟩
    have h2 : codeOf b <+: codeOf b ++ enc bs := ⟨_, rfl⟩
    have : a = b := by
      rcases List.prefix_or_prefix_of_prefix h1 h2 with q | q
      · exact code_pre a (ha a (by simp)) b (hb b (by simp)) (List.isPrefixOf_iff_prefix.mpr q)
      · exact (code_pre b (hb b (by simp)) a (ha a (by simp)) (List.isPrefixOf_iff_prefix.mpr q)).symm
    subst this
    rw [enc_inj (fun ch h => ha ch (List.mem_cons_of_mem _ h)) (fun ch h => hb ch (List.mem_cons_of_mem _ h)) (List.append_cancel_left h)]
theorem rowOf_inj {p q : List Nat × Bool} (gp : GoodSeg p) (gq : GoodSeg q) (h : rowOf p = rowOf q) : p = q := by
  have hb : p.2 = q.2 := by rw [← soft_row gp, ← soft_row gq, h]
  obtain ⟨s, b⟩ := p
  obtain ⟨t, b'⟩ := q
  dsimp only at hb
  subst hb
  unfold rowOf at h
  have : s = t := enc_inj gp.chars gq.chars (List.append_cancel_right h)
  rw [this]
theorem map_inj {α β : Type} {f : α → β} {P : α → Prop} (hf : ∀ a b, P a → P b → f a = f b → a = b) : ∀ {xs ys : List α}, (∀ x ∈ xs, P x) → (∀ y ∈ ys, P y) → xs.map f = ys.map f → xs = ys
  | [], [], _, _, _ => rfl
  | [], y :: ys, _, _, h => by simp at h
  | x :: xs, [], _, _, h => by simp at h
  | x :: xs, y :: ys, hx, hy, h => by
    simp only [List.map_cons, List.cons.injEq] at h
    rw [hf x y (hx x (by simp)) (hy y (by simp)) h.1, map_inj hf (fun a ha => hx a (by simp [ha])) (fun a ha => hy a (by simp [ha])) h.2]
/-! rows of a place -/
noncomputable def Rw (w : Nat) (ns : List (List Nat)) : List (List Nat) := ns.flatMap (rowsN w)
noncomputable def Fl (ns : List (List Nat)) : List Nat := ns.flatMap fun n => n ++ [10]
theorem alpha_no10 : 10 ∉ alpha := by decide
theorem GoodName.no10 {n : List Nat} (g : GoodName n) : 10 ∉ n := fun h => alpha_no10 (g.chars _ h)
theorem Fl_inj : ∀ {a b : List (List Nat)}, (∀ n ∈ a, GoodName n) → (∀ n ∈ b, GoodName n) → Fl a = Fl b → a = b
  | [], [], _, _, _ => rfl
  | [], b :: bs, _, _, h => by simp [Fl] at h
  | a :: as, [], _, _, h => by simp [Fl] at h
  | a :: as, b :: bs, ha, hb, h => by
    have h' : a ++ 10 :: Fl as = b ++ 10 :: Fl bs := by simpa [Fl] using h
    obtain ⟨h1, h2⟩ := free_cut (ha a (by simp)).no10 (hb b (by simp)).no10 h'
    rw [h1, Fl_inj (fun n h => ha n (by simp [h])) (fun n h => hb n (by simp [h])) h2]
theorem Fl_inter : ∀ {ns : List (List Nat)}, ns ≠ [] → Fl ns = List.intercalate [10] ns ++ [10]
  | [], h => absurd rfl h
  | [n], _ => by simp [Fl, List.intercalate]
  | n :: m :: r, _ => by
    have ih := Fl_inter (ns := m :: r) (by simp)
    rw [inter_cons2]
    show (n ++ [10]) ++ Fl (m :: r) = _
    rw [ih]; simp
theorem segsP {w : Nat} (hw : 4 ≤ w) : ∀ {ns : List (List Nat)}, (∀ n ∈ ns, GoodName n) → ∃ xs : List (List Nat × Bool), Rw w ns = xs.map rowOf ∧ (∀ p ∈ xs, GoodSeg p) ∧ (xs.map decd).flatten = Fl ns
  | [], _ => ⟨[], rfl, by simp, rfl⟩
  | n :: ns, h => by
    obtain ⟨ini, l, e1, e2, e3⟩ := segs hw (h n (by simp))
    obtain ⟨xs, f1, f2, f3⟩ := segsP hw (ns := ns) fun m hm => h m (by simp [hm])
    refine ⟨segL ini l ++ xs, ?_, fun p hp => ?_, ?_⟩
    · show rowsN w n ++ Rw w ns = _
      rw [e1, f1, List.map_append]
    · rcases List.mem_append.mp hp with q | q
      · exact e2 p q
      · exact f2 p q
    · rw [List.map_append, List.flatten_append, e3, f3]; rfl
theorem Rw_inj {w : Nat} (hw : 4 ≤ w) {a b : List (List Nat)} (ha : ∀ n ∈ a, GoodName n) (hb : ∀ n ∈ b, GoodName n) (h : Rw w a = Rw w b) : a = b := by
  obtain ⟨xs, f1, f2, f3⟩ := segsP hw ha
  obtain ⟨ys, g1, g2, g3⟩ := segsP hw hb
  have : xs = ys := map_inj (P := GoodSeg) (fun a b ga gb => rowOf_inj ga gb) f2 g2 (by rw [← f1, ← g1, h])
  subst this
  exact Fl_inj ha hb (by rw [← f3, ← g3])
theorem row_of {p : List Nat × Bool} (g : GoodSeg p) : Row (rowOf p) ∧ rowOf p ≠ [46] ∧ 10 ∉ rowOf p := by
  obtain ⟨ini, z, e, _⟩ := rowOf_last g
  have hc := rowOf_chars g
  refine ⟨⟨by rw [e]; simp, fun h => absurd (hc _ h) (by decide)⟩, fun h => absurd (hc 46 (by rw [h]; simp)) (by decide), fun h => absurd (hc _ h) (by decide)⟩
theorem Rw_rows {w : Nat} (hw : 4 ≤ w) {ns : List (List Nat)} (h : ∀ n ∈ ns, GoodName n) : ∀ r ∈ Rw w ns, Row r ∧ r ≠ [46] ∧ 10 ∉ r ∧ r.length ≤ 28 := by
  obtain ⟨xs, f1, f2, f3⟩ := segsP hw h
  rw [f1]
  intro r hr
  obtain ⟨p, hp, rfl⟩ := List.mem_map.mp hr
  have := row_of (f2 p hp)
  exact ⟨this.1, this.2.1, this.2.2, rowOf_len (f2 p hp)⟩
theorem rowsN_shape {w : Nat} (hw : 4 ≤ w) {n : List Nat} (g : GoodName n) : ∃ a h, rowsN w n = a ++ [h] ∧ (∀ r ∈ a, soft r = true) ∧ soft h = false := by
  obtain ⟨ini, l, e1, e2, e3⟩ := segs hw g
  refine ⟨ini.map fun s => rowOf (s, true), rowOf (l, false), by rw [e1]; simp [segL], fun r hr => ?_, soft_row (e2 _ (by simp [segL]))⟩
  obtain ⟨s, hs, rfl⟩ := List.mem_map.mp hr
  exact soft_row (e2 (s, true) (by simp [segL, hs]))
theorem cut_soft : ∀ {a b x y : List (List Nat)} {h h' : List Nat}, (∀ r ∈ a, soft r = true) → (∀ r ∈ b, soft r = true) → soft h = false → soft h' = false → a ++ h :: x = b ++ h' :: y → a = b ∧ h = h' ∧ x = y
  | [], [], x, y, h, h', _, _, _, _, e => ⟨rfl, by simp at e; exact e.1, by simp at e; exact e.2⟩
  | [], b :: bs, x, y, h, h', _, hb, hh, _, e => by simp at e; rw [e.1, hb b (by simp)] at hh; cases hh
  | a :: as, [], x, y, h, h', ha, _, _, hh, e => by simp at e; rw [← e.1, ha a (by simp)] at hh; cases hh
  | a :: as, b :: bs, x, y, h, h', ha, hb, h1, h2, e => by
    simp only [List.cons_append, List.cons.injEq] at e
    obtain ⟨q1, q2, q3⟩ := cut_soft (fun r hr => ha r (by simp [hr])) (fun r hr => hb r (by simp [hr])) h1 h2 e.2
    exact ⟨by rw [e.1, q1], q2, q3⟩
theorem Rw_cons (w : Nat) (n : List Nat) (ns : List (List Nat)) : Rw w (n :: ns) = rowsN w n ++ Rw w ns := rfl
theorem Rw_app (w : Nat) (a b : List (List Nat)) : Rw w (a ++ b) = Rw w a ++ Rw w b := List.flatMap_append
theorem Rw_last {w : Nat} (hw : 4 ≤ w) {ns : List (List Nat)} (hn : ns ≠ []) (h : ∀ n ∈ ns, GoodName n) : ∃ t r, Rw w ns = t ++ [r] ∧ soft r = false := by
  rcases List.eq_nil_or_concat ns with e | ⟨t, n, rfl⟩
  · exact absurd e hn
  · rw [List.concat_eq_append] at h ⊢
    obtain ⟨a, r, e, _, hr⟩ := rowsN_shape hw (h n (by simp))
    rw [Rw_app]
    refine ⟨Rw w t ++ a, r, ?_, hr⟩
    rw [Rw_cons, e]; simp [Rw]
theorem pre_app {α : Type} : ∀ {p a b : List α}, p <+: a ++ b → p <+: a ∨ ∃ t, p = a ++ t ∧ t <+: b
  | p, [], b, h => .inr ⟨p, rfl, h⟩
  | [], x :: a, b, h => .inl (List.nil_prefix)
  | y :: p, x :: a, b, h => by
    rw [List.cons_append, List.cons_prefix_cons] at h
    rcases pre_app h.2 with q | ⟨t, e, q⟩
    · exact .inl (List.cons_prefix_cons.mpr ⟨h.1, q⟩)
    · exact .inr ⟨t, by rw [h.1, e]; rfl, q⟩
/-- a way that ends in a whole row is a front -/
theorem prefix_hard {w : Nat} (hw : 4 ≤ w) : ∀ {ns p : List (List Nat)} {r : List Nat}, (∀ n ∈ ns, GoodName n) → p ++ [r] <+: Rw w ns → soft r = false → ∃ k, 1 ≤ k ∧ k ≤ ns.length ∧ p ++ [r] = Rw w (ns.take k)
  | [], p, r, _, h, _ => by
    have := List.prefix_nil.mp h
    simp at this
  | n :: ns, p, r, hg, h, hr => by
    obtain ⟨a, hd, e, ha, hh⟩ := rowsN_shape hw (hg n (by simp))
    rw [Rw_cons] at h
    rcases pre_app h with q | ⟨t, ht, q⟩
    · refine ⟨1, by omega, by simp, ?_⟩
      rw [List.take_succ_cons, List.take_zero, Rw_cons, show Rw w [] = [] from rfl, List.append_nil]
      obtain ⟨u, hu⟩ := q
      rw [e] at hu ⊢
      have hpa : ∀ x ∈ p, x ∈ a ++ [hd] := fun x hx => by rw [← hu]; simp [hx]
      rcases List.eq_nil_or_concat u with e' | ⟨v, z, rfl⟩
      · subst e'; simpa using hu
      · rw [List.concat_eq_append, ← List.append_assoc] at hu
        have := List.append_inj_left' hu rfl
        have hra : r ∈ a := by rw [← this]; simp
        rw [ha r hra] at hr; cases hr
    · rcases List.eq_nil_or_concat t with e' | ⟨v, z, rfl⟩
      · subst e'
        rw [List.append_nil] at ht
        refine ⟨1, by omega, by simp, ?_⟩
        rw [List.take_succ_cons, List.take_zero, Rw_cons, show Rw w [] = [] from rfl, List.append_nil, ht]
      · rw [List.concat_eq_append] at ht q
        rw [← List.append_assoc] at ht
        have hz : r = z := by have := List.append_inj_right' ht rfl; simpa using this
        subst hz
        obtain ⟨k, h1, h2, h3⟩ := prefix_hard hw (ns := ns) (fun m hm => hg m (by simp [hm])) q hr
        refine ⟨k + 1, by omega, by simp; omega, ?_⟩
        rw [List.take_succ_cons, Rw_cons, ← h3, ht, List.append_assoc]
theorem front_prefix (w : Nat) (ns : List (List Nat)) (k : Nat) : Rw w (ns.take k) <+: Rw w ns := ⟨Rw w (ns.drop k), by rw [← Rw_app, List.take_append_drop]⟩
/-! alike -/
noncomputable def alk : List (List Nat) → List (List Nat) → List (List Nat)
  | x :: xs, y :: ys => if x = y then x :: alk xs ys else []
  | _, _ => []
theorem alk_S : ∀ xs ys : List (List Nat), alikeL (xs.map S) (ys.map S) = (alk xs ys).map S
  | [], _ => by simp [alk, alikeL]
  | _ :: _, [] => by simp [alk, alikeL]
  | x :: xs, y :: ys => by
    simp only [List.map_cons, alikeL, alk]
    by_cases h : x = y
    · subst h; rw [if_pos rfl, if_pos rfl, alk_S]; rfl
    · rw [if_neg (fun e => h (S_inj e)), if_neg h]; rfl
theorem alk_pre : ∀ xs ys : List (List Nat), alk xs ys <+: xs ∧ alk xs ys <+: ys
  | [], _ => by simp [alk]
  | _ :: _, [] => by simp [alk]
  | x :: xs, y :: ys => by
    unfold alk
    split
    · rename_i h; subst h
      obtain ⟨h1, h2⟩ := alk_pre xs ys
      exact ⟨List.cons_prefix_cons.mpr ⟨rfl, h1⟩, List.cons_prefix_cons.mpr ⟨rfl, h2⟩⟩
    · simp
theorem alk_app (a x y : List (List Nat)) : alk (a ++ x) (a ++ y) = a ++ alk x y := by
  induction a with
  | nil => rfl
  | cons z r ih => rw [List.cons_append, List.cons_append, alk, if_pos rfl, ih]; rfl
theorem alk_comm : ∀ xs ys : List (List Nat), alk xs ys = alk ys xs
  | [], [] => rfl
  | [], _ :: _ => by simp [alk]
  | _ :: _, [] => by simp [alk]
  | x :: xs, y :: ys => by
    unfold alk
    by_cases h : x = y
    · subst h; rw [if_pos rfl, if_pos rfl, alk_comm]
    · rw [if_neg h, if_neg (fun e => h e.symm)]
theorem hard_split : ∀ {q : List (List Nat)}, (∃ r ∈ q, soft r = false) → ∃ a h b, q = a ++ h :: b ∧ (∀ r ∈ a, soft r = true) ∧ soft h = false
  | [], ⟨r, h, _⟩ => by simp at h
  | x :: q, ⟨r, h, hr⟩ => by
    cases hx : soft x with
    | false => exact ⟨[], x, q, rfl, by simp, hx⟩
    | true =>
      rcases List.mem_cons.mp h with rfl | h
      · rw [hx] at hr; cases hr
      · obtain ⟨a, h', b, e, h1, h2⟩ := hard_split ⟨r, h, hr⟩
        refine ⟨x :: a, h', b, by rw [e]; rfl, fun z hz => ?_, h2⟩
        rcases List.mem_cons.mp hz with rfl | hz
        · exact hx
        · exact h1 z hz
theorem alk_rows {w : Nat} (hw : 4 ≤ w) : ∀ {p q : List (List Nat)}, (∀ n ∈ p, GoodName n) → (∀ n ∈ q, GoodName n) → ∃ sf, alk (Rw w p) (Rw w q) = Rw w (alk p q) ++ sf ∧ ∀ r ∈ sf, soft r = true
  | [], q, _, _ => ⟨[], by simp [alk, Rw], by simp⟩
  | n :: p, [], _, _ => ⟨[], by rw [alk_comm]; simp [alk, Rw], by simp⟩
  | n :: p, m :: q, hp, hq => by
    by_cases h : n = m
    · subst h
      obtain ⟨sf, e, hs⟩ := alk_rows hw (p := p) (q := q) (fun a ha => hp a (by simp [ha])) (fun a ha => hq a (by simp [ha]))
      refine ⟨sf, ?_, hs⟩
      rw [Rw_cons, Rw_cons, alk_app, e, alk, if_pos rfl, Rw_cons, List.append_assoc]
    · refine ⟨alk (Rw w (n :: p)) (Rw w (m :: q)), by rw [show alk (n :: p) (m :: q) = [] by rw [alk, if_neg h]]; rfl, ?_⟩
      obtain ⟨q1, q2⟩ := alk_pre (Rw w (n :: p)) (Rw w (m :: q))
      intro r hr
      cases hs : soft r with
      | true => rfl
      | false =>
        exfalso
        obtain ⟨a, hd, b, e, ha, hh⟩ := hard_split ⟨r, hr, hs⟩
        rw [e] at q1 q2
        obtain ⟨a1, h1, e1, ha1, hh1⟩ := rowsN_shape hw (hp n (by simp))
        obtain ⟨a2, h2, e2, ha2, hh2⟩ := rowsN_shape hw (hq m (by simp))
        obtain ⟨u, hu⟩ := q1
        obtain ⟨v, hv⟩ := q2
        rw [Rw_cons, e1, List.append_assoc, List.append_assoc] at hu
        rw [Rw_cons, e2, List.append_assoc, List.append_assoc] at hv
        obtain ⟨x1, x2, _⟩ := cut_soft ha ha1 hh hh1 hu
        obtain ⟨y1, y2, _⟩ := cut_soft ha ha2 hh hh2 hv
        have : Rw w [n] = Rw w [m] := by
          show rowsN w n ++ [] = rowsN w m ++ []
          rw [e1, e2, ← x1, ← x2, ← y1, ← y2]
        have := Rw_inj hw (a := [n]) (b := [m]) (fun z hz => hp z (by simp at hz; simp [hz])) (fun z hz => hq z (by simp at hz; simp [hz])) this
        simp at this
        exact h this
end Mine

end
section
open PySem PySem.W PyProof.Rows
set_option Elab.async false
set_option autoImplicit false
set_option linter.unusedVariables false
namespace Mine
/-! what the sort's questions come to, by ranks -/
section
variable (r : Nat → Nat)
noncomputable def rkv {α : Type} : KasT α → α
  | .ret a => a
  | .ask i j k => rkv (k (decide (r i < r j)))
theorem rkv_bind {α β : Type} (f : α → KasT β) : ∀ t : KasT α, rkv r (t.bind f) = rkv r (f (rkv r t))
  | .ret _ => rfl
  | .ask i j k => by show rkv r ((k _).bind f) = _; rw [rkv_bind f (k _)]; rfl
noncomputable def Kp (p : Array Nat) (i : Nat) : Nat := r (p.getD i 0)
noncomputable def Srt (p : Array Nat) (k : Nat) : Prop := ∀ i j, i ≤ j → j < k → Kp r p i ≤ Kp r p j
noncomputable def Dsc (p : Array Nat) (k : Nat) : Prop := ∀ i j, i ≤ j → j < k → Kp r p j ≤ Kp r p i
theorem getD_congr {p q : Array Nat} {i j : Nat} (h : p[i]? = q[j]?) : p.getD i 0 = q.getD j 0 := by
  rw [Array.getD_eq_getD_getElem?, Array.getD_eq_getD_getElem?, h]
theorem Kp_rev {p : Array Nat} {i j : Nat} (hj : j ≤ p.size) (k : Nat) : Kp r (kas_rev p i j) k = if i ≤ k ∧ k < j then Kp r p (i + j - 1 - k) else Kp r p k := by
  have e := getElem?_mirror_all (i := i) hj k
  unfold Kp kas_rev
  by_cases h1 : i ≤ k ∧ k < j
  · rw [if_pos h1] at e ⊢; rw [getD_congr e]
  · rw [if_neg h1] at e ⊢; rw [getD_congr e]
theorem Kp_rev_same {p : Array Nat} {i j : Nat} (hj : j ≤ p.size) (he : ∀ k, i ≤ k → k < j → Kp r p k = Kp r p (j - 1)) (k : Nat) : Kp r (kas_rev p i j) k = Kp r p k := by
  rw [Kp_rev r hj]
  split
  · rw [he _ (by omega) (by omega), he k (by omega) (by omega)]
  · rfl
theorem Kp_bubble {p : Array Nat} {src d : Nat} (hs : src < p.size) (hd : d ≤ src) (k : Nat) :
    Kp r (bubble p src d) k = if k = src - d then Kp r p src else if src - d < k ∧ k ≤ src then Kp r p (k - 1) else Kp r p k := by
  have e := getElem?_bubble hs d hd k
  unfold Kp
  by_cases h1 : k = src - d
  · rw [if_pos h1] at e ⊢; rw [getD_congr e]
  · rw [if_neg h1] at e ⊢
    by_cases h2 : src - d < k ∧ k ≤ src
    · rw [if_pos h2] at e ⊢; rw [getD_congr e]
    · rw [if_neg h2] at e ⊢; rw [getD_congr e]
theorem asc_val (p : Array Nat) : ∀ f n, 1 ≤ n → Srt r p n → n ≤ rkv r (kas_asc p f n) ∧ rkv r (kas_asc p f n) ≤ n + f ∧ Srt r p (rkv r (kas_asc p f n)) ∧ (rkv r (kas_asc p f n) = n + f ∨ Kp r p (rkv r (kas_asc p f n)) < Kp r p (rkv r (kas_asc p f n) - 1))
  | 0, n, h1, hs => ⟨Nat.le_refl _, Nat.le_refl _, hs, .inl rfl⟩
  | f + 1, n, h1, hs => by
    have e : rkv r (kas_asc p (f + 1) n) = rkv r (if decide (Kp r p n < Kp r p (n - 1)) = true then KasT.ret n else kas_asc p f (n + 1)) := rfl
    rw [e]
    by_cases hc : Kp r p n < Kp r p (n - 1)
    · rw [if_pos (decide_eq_true hc)]
      exact ⟨Nat.le_refl _, Nat.le_add_right _ _, hs, .inr hc⟩
    · rw [if_neg (by simpa using hc)]
      obtain ⟨h2, h3, h4, h5⟩ := asc_val p f (n + 1) (by omega) fun i j hij hj => by
        by_cases hjn : j < n
        · exact hs i j hij hjn
        · have : j = n := by omega
          subst this
          by_cases hi : i = j
          · subst hi; exact Nat.le_refl _
          · exact Nat.le_trans (hs i (j - 1) (by omega) (by omega)) (Nat.not_lt.mp hc)
      refine ⟨by omega, by omega, h4, ?_⟩
      rcases h5 with h5 | h5
      · left; omega
      · exact .inr h5
theorem desc_val : ∀ f (p : Array Nat) n q, n + f ≤ p.size → Dsc r p n → q + 1 ≤ n → (∀ i, n - (q + 1) ≤ i → i < n → Kp r p i = Kp r p (n - 1)) →
    ∃ p' m q', rkv r (kas_desc f p n q) = (p', m, q') ∧ p'.Perm p ∧ n ≤ m ∧ m ≤ n + f ∧ Dsc r p' m ∧ q' + 1 ≤ m ∧ ∀ i, m - (q' + 1) ≤ i → i < m → Kp r p' i = Kp r p' (m - 1)
  | 0, p, n, q, hz, hs, hq, he => ⟨p, n, q, rfl, Array.Perm.refl _, Nat.le_refl _, Nat.le_refl _, hs, hq, he⟩
  | f + 1, p, n, q, hz, hs, hq, he => by
    have e : rkv r (kas_desc (f + 1) p n q) = rkv r (if decide (Kp r p n < Kp r p (n - 1)) = true then (if q > 0 then kas_desc f (kas_rev p (n - (q + 1)) n) (n + 1) 0 else kas_desc f p (n + 1) 0)
      else KasT.ask (p.getD (n - 1) 0) (p.getD n 0) fun d => if d = true then KasT.ret (p, n, q) else kas_desc f p (n + 1) (q + 1)) := rfl
    rw [e]
    have hsz : n ≤ p.size := by omega
    have step1 : Kp r p n < Kp r p (n - 1) → ∀ p' : Array Nat, (∀ k, Kp r p' k = Kp r p k) → Dsc r p' (n + 1) := fun hc p' hk i j hij hj => by
      rw [hk, hk]
      by_cases hjn : j < n
      · exact hs i j hij hjn
      · have : j = n := by omega
        subst this
        by_cases hi : i = j
        · subst hi; exact Nat.le_refl _
        · exact Nat.le_trans (Nat.le_of_lt hc) (hs i (j - 1) (by omega) (by omega))
    by_cases hc : Kp r p n < Kp r p (n - 1)
    · rw [if_pos (decide_eq_true hc)]
      by_cases hq0 : q > 0
      · rw [if_pos hq0]
        have hps : (kas_rev p (n - (q + 1)) n).size = p.size := kas_rev_size _ _
        obtain ⟨p', m, q', h1, h2, h3, h4, h5, h6, h7⟩ := desc_val f (kas_rev p (n - (q + 1)) n) (n + 1) 0 (by omega) (step1 hc _ (Kp_rev_same r hsz he)) (by omega) (fun i h1 h2 => by congr 1; omega)
        exact ⟨p', m, q', h1, h2.trans (mirror_perm _ _ _ _), by omega, by omega, h5, h6, h7⟩
      · rw [if_neg hq0]
        obtain ⟨p', m, q', h1, h2, h3, h4, h5, h6, h7⟩ := desc_val f p (n + 1) 0 (by omega) (step1 hc _ fun _ => rfl) (by omega) (fun i h1 h2 => by congr 1; omega)
        exact ⟨p', m, q', h1, h2, by omega, by omega, h5, h6, h7⟩
    · rw [if_neg (by simpa using hc)]
      have e2 : rkv r (KasT.ask (p.getD (n - 1) 0) (p.getD n 0) fun d => if d = true then KasT.ret (p, n, q) else kas_desc f p (n + 1) (q + 1)) = rkv r (if decide (Kp r p (n - 1) < Kp r p n) = true then KasT.ret (p, n, q) else kas_desc f p (n + 1) (q + 1)) := rfl
      rw [e2]
      by_cases hd : Kp r p (n - 1) < Kp r p n
      · rw [if_pos (decide_eq_true hd)]
        exact ⟨p, n, q, rfl, Array.Perm.refl _, Nat.le_refl _, by omega, hs, hq, he⟩
      · rw [if_neg (by simpa using hd)]
        have hx : Kp r p n = Kp r p (n - 1) := by omega
        obtain ⟨p', m, q', h1, h2, h3, h4, h5, h6, h7⟩ := desc_val f p (n + 1) (q + 1) (by omega) (fun i j hij hj => by
            by_cases hjn : j < n
            · exact hs i j hij hjn
            · have : j = n := by omega
              subst this
              by_cases hi : i = j
              · subst hi; exact Nat.le_refl _
              · rw [hx]; exact hs i (j - 1) (by omega) (by omega)) (by omega) (fun i h1 h2 => by
            rw [show n + 1 - 1 = n by omega]
            by_cases hi : i = n
            · rw [hi]
            · rw [hx]; exact he i (by omega) (by omega))
        exact ⟨p', m, q', h1, h2, by omega, by omega, h5, h6, h7⟩
theorem tail3_val {p : Array Nat} {n nrem : Nat} (h1 : 1 ≤ n) (hn : n ≤ nrem) (hz : nrem ≤ p.size) (hs : Dsc r p n) : ∃ m p', rkv r (kas_tail3 n nrem p) = (m, p') ∧ p'.Perm p ∧ 1 ≤ m ∧ m ≤ nrem ∧ Srt r p' m := by
  unfold kas_tail3
  rw [rkv_bind]
  obtain ⟨a1, a2, a3, _⟩ := asc_val r (kas_rev p 0 n) (nrem - n) n h1 fun i j hij hj => by
    rw [Kp_rev r (by omega), Kp_rev r (by omega), if_pos (by omega), if_pos (by omega)]
    exact hs _ _ (by omega) (by omega)
  exact ⟨_, _, rfl, mirror_perm _ _ _ _, by omega, by omega, a3⟩
theorem descPart_val {p : Array Nat} {n nrem : Nat} (hn : n + 1 ≤ nrem) (hz : nrem ≤ p.size) (hs : Dsc r p (n + 1)) : ∃ m p', rkv r (kas_descPart n nrem p) = (m, p') ∧ p'.Perm p ∧ 1 ≤ m ∧ m ≤ nrem ∧ Srt r p' m := by
  unfold kas_descPart
  rw [rkv_bind]
  obtain ⟨p', m, q', e, h2, h3, h4, h5, h6, h7⟩ := desc_val r (nrem - (n + 1)) p (n + 1) 0 (by omega) hs (by omega) (fun i h1 h2 => by congr 1; omega)
  rw [e]
  dsimp only
  have hps := h2.size_eq
  by_cases hq : q' > 0
  · rw [if_pos hq]
    obtain ⟨m', p'', e', g1, g2, g3, g4⟩ := tail3_val r (p := kas_rev p' (m - (q' + 1)) m) (n := m) (nrem := nrem) (by omega) (by omega) (by rw [kas_rev_size]; omega) fun i j hij hj => by
      rw [Kp_rev_same r (by omega) h7, Kp_rev_same r (by omega) h7]
      exact h5 i j hij hj
    exact ⟨m', p'', e', (g1.trans (mirror_perm _ _ _ _)).trans h2, g2, g3, g4⟩
  · rw [if_neg hq]
    obtain ⟨m', p'', e', g1, g2, g3, g4⟩ := tail3_val r (p := p') (n := m) (nrem := nrem) (by omega) (by omega) (by omega) h5
    exact ⟨m', p'', e', g1.trans h2, g2, g3, g4⟩
theorem count_val {p : Array Nat} {nrem : Nat} (h1 : 1 ≤ nrem) (hz : nrem ≤ p.size) : ∃ m p', rkv r (kas_count nrem p) = (m, p') ∧ p'.Perm p ∧ 1 ≤ m ∧ m ≤ nrem ∧ Srt r p' m := by
  unfold kas_count
  rw [rkv_bind]
  obtain ⟨a1, a2, a3, a4⟩ := asc_val r p (nrem - 1) 1 (Nat.le_refl _) fun i j hij hj => by
    have : i = j := by omega
    subst this; exact Nat.le_refl _
  generalize rkv r (kas_asc p (nrem - 1) 1) = n at a1 a2 a3 a4
  by_cases hnn : n = nrem
  · rw [if_pos (by simpa using hnn)]
    exact ⟨n, p, rfl, Array.Perm.refl _, a1, by omega, a3⟩
  · rw [if_neg (by simpa using hnn)]
    have hlt : Kp r p n < Kp r p (n - 1) := a4.resolve_left (by omega)
    by_cases hgt : n > 1
    · rw [if_pos hgt]
      have e : rkv r (KasT.ask (p.getD 0 0) (p.getD (n - 1) 0) fun c => if c = true then KasT.ret (n, p) else kas_descPart n nrem (kas_rev p 0 n)) = rkv r (if decide (Kp r p 0 < Kp r p (n - 1)) = true then KasT.ret (n, p) else kas_descPart n nrem (kas_rev p 0 n)) := rfl
      rw [e]
      by_cases hc : Kp r p 0 < Kp r p (n - 1)
      · rw [if_pos (decide_eq_true hc)]
        exact ⟨n, p, rfl, Array.Perm.refl _, a1, by omega, a3⟩
      · rw [if_neg (by simpa using hc)]
        have hall : ∀ k, 0 ≤ k → k < n → Kp r p k = Kp r p (n - 1) := fun k _ hk => by
          have b1 := a3 0 k (by omega) hk
          have b2 := a3 k (n - 1) (by omega) (by omega)
          omega
        obtain ⟨m', p'', e', g1, g2, g3, g4⟩ := descPart_val r (p := kas_rev p 0 n) (n := n) (nrem := nrem) (by omega) (by rw [kas_rev_size]; omega) fun i j hij hj => by
          rw [Kp_rev_same r (by omega) hall, Kp_rev_same r (by omega) hall]
          by_cases hjn : j < n
          · rw [hall i (by omega) (by omega), hall j (by omega) hjn]; exact Nat.le_refl _
          · have : j = n := by omega
            subst this
            by_cases hi : i = j
            · subst hi; exact Nat.le_refl _
            · rw [hall i (by omega) (by omega)]; exact Nat.le_of_lt hlt
        exact ⟨m', p'', e', g1.trans (mirror_perm _ _ _ _), g2, g3, g4⟩
    · rw [if_neg hgt]
      have hn1 : n = 1 := by omega
      subst hn1
      exact descPart_val r (by omega) hz fun i j hij hj => by
        by_cases hi : i = j
        · subst hi; exact Nat.le_refl _
        · have h0 : i = 0 := by omega
          have h1 : j = 1 := by omega
          subst h0 h1
          exact Nat.le_of_lt hlt
theorem place_val {p : Array Nat} {k : Nat} (hs : Srt r p k) : ∀ f l u, l ≤ u → u ≤ k → u - l ≤ f → (∀ i, i < l → Kp r p i ≤ Kp r p k) → (∀ i, u ≤ i → i < k → Kp r p k < Kp r p i) →
    rkv r (kas_place p k f l u) ≤ k ∧ (∀ i, i < rkv r (kas_place p k f l u) → Kp r p i ≤ Kp r p k) ∧ ∀ i, rkv r (kas_place p k f l u) ≤ i → i < k → Kp r p k < Kp r p i
  | 0, l, u, h1, h2, h3, hlo, hhi => ⟨show l ≤ k by omega, hlo, fun i hi => hhi i (show u ≤ i from by have : l ≤ i := hi; omega)⟩
  | f + 1, l, u, h1, h2, h3, hlo, hhi => by
    unfold kas_place
    by_cases hge : l ≥ u
    · rw [if_pos hge]
      exact ⟨show l ≤ k by omega, hlo, fun i hi => hhi i (by have : l ≤ i := hi; omega)⟩
    · rw [if_neg hge]
      have e : rkv r (KasT.ask (p.getD k 0) (p.getD ((l + u) / 2) 0) fun c => if c = true then kas_place p k f l ((l + u) / 2) else kas_place p k f ((l + u) / 2 + 1) u) = rkv r (if decide (Kp r p k < Kp r p ((l + u) / 2)) = true then kas_place p k f l ((l + u) / 2) else kas_place p k f ((l + u) / 2 + 1) u) := rfl
      rw [e]
      by_cases hc : Kp r p k < Kp r p ((l + u) / 2)
      · rw [if_pos (decide_eq_true hc)]
        exact place_val hs f l ((l + u) / 2) (by omega) (by omega) (by omega) hlo fun i a b => Nat.lt_of_lt_of_le hc (hs _ _ a b)
      · rw [if_neg (by simpa using hc)]
        exact place_val hs f ((l + u) / 2 + 1) u (by omega) (by omega) (by omega) (fun i a => Nat.le_trans (hs i ((l + u) / 2) (by omega) (by omega)) (Nat.not_lt.mp hc)) hhi
theorem bin_val : ∀ f (p : Array Nat) k, k + f ≤ p.size → Srt r p k → (rkv r (kas_bin f p k)).Perm p ∧ Srt r (rkv r (kas_bin f p k)) (k + f)
  | 0, p, k, hz, hs => ⟨Array.Perm.refl _, hs⟩
  | f + 1, p, k, hz, hs => by
    unfold kas_bin
    rw [rkv_bind]
    obtain ⟨h1, h2, h3⟩ := place_val r hs k 0 k (by omega) (by omega) (by omega) (fun i hi => by omega) (fun i a b => by omega)
    generalize rkv r (kas_place p k k 0 k) = l at h1 h2 h3
    have hk : k < p.size := by omega
    obtain ⟨g1, g2⟩ := bin_val f (bubble p k (k - l)) (k + 1) (by rw [bubble_size]; omega) fun i j hij hj => by
      rw [Kp_bubble r hk (by omega), Kp_bubble r hk (by omega), show k - (k - l) = l by omega]
      repeat' split
      all_goals first
        | (exfalso; omega)
        | exact Nat.le_refl _
        | exact h2 _ (by omega)
        | exact Nat.le_of_lt (h3 _ (by omega) (by omega))
        | exact hs _ _ (by omega) (by omega)
    exact ⟨g1.trans (bubble_perm _ _ _), by rw [show k + (f + 1) = k + 1 + f by omega]; exact g2⟩
theorem sort_val {n : Nat} (h1 : 1 ≤ n) : (rkv r (kas_sort n)).Perm (List.range n).toArray ∧ Srt r (rkv r (kas_sort n)) n := by
  unfold kas_sort
  rw [rkv_bind]
  have hsz : (List.toArray (List.range n)).size = n := by simp
  obtain ⟨m, p, e, g1, g2, g3, g4⟩ := count_val r (p := List.toArray (List.range n)) h1 (by rw [hsz]; exact Nat.le_refl _)
  rw [e]
  dsimp only
  have hps := g1.size_eq
  by_cases hlt : m < n
  · rw [if_pos hlt, show max m 1 = m by omega]
    obtain ⟨q1, q2⟩ := bin_val r (n - m) p m (by omega) g4
    exact ⟨q1.trans g1, by rw [show m + (n - m) = n by omega] at q2; exact q2⟩
  · rw [if_neg hlt]
    have : m = n := by omega
    subst this
    exact ⟨g1, g4⟩
/-! the questions asked are of items in bounds -/
noncomputable def AskR (n : Nat) {α : Type} : KasT α → (α → Prop) → Prop
  | .ret a, R => R a
  | .ask i j k, R => i < n ∧ j < n ∧ ∀ b, AskR n (k b) R
theorem AskR.bind {n : Nat} {α β : Type} {f : α → KasT β} {R : α → Prop} {R' : β → Prop} : ∀ {t : KasT α}, AskR n t R → (∀ a, R a → AskR n (f a) R') → AskR n (t.bind f) R'
  | .ret a, h, k => k a h
  | .ask i j c, h, k => ⟨h.1, h.2.1, fun b => AskR.bind (h.2.2 b) k⟩
noncomputable def InN (n : Nat) (p : Array Nat) : Prop := 0 < n ∧ ∀ x ∈ p.toList, x < n
theorem InN.at {n : Nat} {p : Array Nat} (h : InN n p) (i : Nat) : p.getD i 0 < n := by
  rw [Array.getD_eq_getD_getElem?]
  cases e : p[i]? with
  | none => exact h.1
  | some x => exact h.2 x (Array.mem_toList_iff.mpr (Array.mem_of_getElem? e))
theorem InN.perm {n : Nat} {p q : Array Nat} (h : InN n p) (e : q.Perm p) : InN n q := ⟨h.1, fun x hx => h.2 x ((Array.perm_iff_toList_perm.mp e).mem_iff.mp hx)⟩
theorem ask_ite {n : Nat} {α : Type} {b : Bool} {t u : KasT α} {R : α → Prop} (h1 : AskR n t R) (h2 : AskR n u R) : AskR n (if b = true then t else u) R := by
  cases b <;> simp [h1, h2]
theorem asc_ask {n : Nat} {p : Array Nat} (h : InN n p) : ∀ f m, AskR n (kas_asc p f m) fun _ => True
  | 0, m => trivial
  | f + 1, m => ⟨h.at _, h.at _, fun b => ask_ite trivial (asc_ask h f _)⟩
theorem desc_ask {n : Nat} : ∀ f (p : Array Nat) m q, InN n p → AskR n (kas_desc f p m q) fun x => InN n x.1
  | 0, p, m, q, h => h
  | f + 1, p, m, q, h => ⟨h.at _, h.at _, fun b => by
      cases b with
      | true =>
        show AskR n (if true = true then (if q > 0 then kas_desc f (kas_rev p (m - (q + 1)) m) (m + 1) 0 else kas_desc f p (m + 1) 0) else _) _
        rw [if_pos rfl]
        split
        · exact desc_ask f _ _ _ (h.perm (mirror_perm _ _ _ _))
        · exact desc_ask f _ _ _ h
      | false =>
        show AskR n (if false = true then _ else KasT.ask (p.getD (m - 1) 0) (p.getD m 0) fun d => if d = true then KasT.ret (p, m, q) else kas_desc f p (m + 1) (q + 1)) _
        rw [if_neg (by decide)]
        exact ⟨h.at _, h.at _, fun b => ask_ite h (desc_ask f _ _ _ h)⟩⟩
theorem tail3_ask {n : Nat} {p : Array Nat} (h : InN n p) (m nrem : Nat) : AskR n (kas_tail3 m nrem p) fun x => InN n x.2 :=
  AskR.bind (asc_ask (h.perm (mirror_perm _ _ _ _)) _ _) fun a _ => h.perm (mirror_perm _ _ _ _)
theorem descPart_ask {n : Nat} {p : Array Nat} (h : InN n p) (m nrem : Nat) : AskR n (kas_descPart m nrem p) fun x => InN n x.2 :=
  AskR.bind (desc_ask _ _ _ _ h) fun a ha => by
    split
    · exact tail3_ask (ha.perm (mirror_perm _ _ _ _)) _ _
    · exact tail3_ask ha _ _
theorem count_ask {n : Nat} {p : Array Nat} (h : InN n p) (nrem : Nat) : AskR n (kas_count nrem p) fun x => InN n x.2 :=
  AskR.bind (asc_ask h _ _) fun a _ => by
    split
    · exact h
    · split
      · exact ⟨h.at _, h.at _, fun b => ask_ite h (descPart_ask (h.perm (mirror_perm _ _ _ _)) _ _)⟩
      · exact descPart_ask h _ _
theorem place_ask {n : Nat} {p : Array Nat} (h : InN n p) (k : Nat) : ∀ f l u, AskR n (kas_place p k f l u) fun _ => True
  | 0, l, u => trivial
  | f + 1, l, u => by
    unfold kas_place
    split
    · trivial
    · exact ⟨h.at _, h.at _, fun b => ask_ite (place_ask h k f _ _) (place_ask h k f _ _)⟩
theorem bin_ask {n : Nat} : ∀ f (p : Array Nat) k, InN n p → AskR n (kas_bin f p k) fun x => InN n x
  | 0, p, k, h => h
  | f + 1, p, k, h => AskR.bind (place_ask h k _ _ _) fun l _ => bin_ask f _ _ (h.perm (bubble_perm _ _ _))
theorem sort_ask {n : Nat} (h1 : 1 ≤ n) : AskR n (kas_sort n) fun _ => True := by
  have h : InN n (List.toArray (List.range n)) := ⟨h1, fun x hx => by simpa using hx⟩
  refine AskR.bind (count_ask h n) fun a ha => ?_
  have weak : ∀ {t : KasT (Array Nat)} {R : Array Nat → Prop}, AskR n t R → AskR n t fun _ => True := fun {t} => by
    induction t with
    | ret a => intro R _; trivial
    | ask i j k ih => intro R h; exact ⟨h.1, h.2.1, fun b => ih b (h.2.2 b)⟩
  split
  · exact weak (bin_ask _ _ _ ha)
  · trivial
/-- questions answered by ranks, on a state that keeps a word -/
theorem rkv_wp {α : Type} {cmp : Nat → Nat → (Bool → Shared → Prop) → Shared → Prop} {P : Shared → Prop} {n : Nat} (hc : ∀ i j (C : Bool → Shared → Prop) s, i < n → j < n → P s → (∀ s', P s' → C (decide (r i < r j)) s') → cmp i j C s) :
    ∀ (t : KasT α) {R : α → Prop} (Q : α → Shared → Prop) s, AskR n t R → P s → (∀ s', P s' → Q (rkv r t) s') → t.kasWp cmp Q s
  | .ret a, R, Q, s, ha, hs, hq => hq s hs
  | .ask i j k, R, Q, s, ha, hs, hq => hc i j _ s ha.1 ha.2.1 hs fun s' hs' => rkv_wp hc (k _) Q s' (ha.2.2 _) hs' hq
theorem sort_wp {cmp : Nat → Nat → (Bool → Shared → Prop) → Shared → Prop} {P : Shared → Prop} {n : Nat} {Q : Array Nat → Shared → Prop} {s : Shared} (h1 : 1 ≤ n) (hc : ∀ i j (C : Bool → Shared → Prop) s, i < n → j < n → P s → (∀ s', P s' → C (decide (r i < r j)) s') → cmp i j C s)
    (hs : P s) (hq : ∀ p s', p.Perm (List.range n).toArray → Srt r p n → P s' → Q p s') : (kas_sort n).kasWp cmp Q s :=
  rkv_wp r hc _ Q s (sort_ask h1) hs fun s' hs' => hq _ s' (sort_val r h1).1 (sort_val r h1).2 hs'
end
end Mine

end
section
open PySem PySem.W PyProof.Rows
set_option Elab.async false
set_option autoImplicit false
set_option linter.unusedVariables false
namespace Mine
open PySem.AutoSeq1 (wpAny_loadPart')
/-! lists of texts, less and greater -/
noncomputable abbrev ksOf (l : List (Str × Tok)) : List (List Nat) := l.map fun p => p.1.cps.toList
theorem strs_get (l : List (Str × Tok)) (i : Nat) : (strValues l).toArray[i]? = (l[i]?).map fun p => Value.str p.1 p.2 := by simp [strValues]
theorem ks_cons_lt {x y : List Nat} {xs ys : List (List Nat)} : (x :: xs < y :: ys) ↔ (x < y ∨ x = y ∧ xs < ys) := List.cons_lt_cons_iff
theorem cps_eq {x y : Str} : (x == y) = decide (x.cps.toList = y.cps.toList) := by
  by_cases h : x = y
  · subst h; simp
  · rw [beq_eq_false_iff_ne.mpr h]
    symm
    rw [decide_eq_false_iff_not]
    intro e
    apply h
    obtain ⟨⟨a⟩⟩ := x; obtain ⟨⟨b⟩⟩ := y
    simp at e
    rw [e]
theorem lt_loop (a b : Addr) (xs ys : List (Str × Tok)) (n n2 : Nat) (k : Nat) : ∀ i : Nat, xs.length - i = k → i ≤ xs.length → i ≤ ys.length → Meets (Builtin.«list.__eq__.loop» ⟨[.ref a, .ref b, rawInt i, rawInt 0], []⟩)
    (fun _ R s => s.heap.get? a = some { cls := .type "list", dict := none, data := .seq (strValues xs).toArray n, slots := #[] } ∧ s.heap.get? b = some { cls := .type "list", dict := none, data := .seq (strValues ys).toArray n2, slots := #[] } ∧
      R (.ok (.ret (.bool (decide (ksOf (xs.drop i) < ksOf (ys.drop i)))))) s) := by
  induction k with
  | zero =>
    intro i hk hi hj prog w A R s h
    obtain ⟨hp, g, d, tk, os⟩ := s; obtain ⟨hl, hb, h⟩ := h
    wp_walk using wpAny_loadPart' hl, wpAny_loadPart' hb
    have hi0 : i = xs.length := by omega
    have hi1 : (strValues xs).toArray[((i : Nat) : Int).toNat]? = none := by rw [Int.toNat_natCast, strs_get]; simp; omega
    rw [hi1]
    wp_walk using wpAny_loadPart' hl, wpAny_loadPart' hb
    have e : (ksOf (xs.drop i) < ksOf (ys.drop i)) ↔ (strValues xs).toArray.size < (strValues ys).toArray.size := by
      have h1 : xs.drop i = [] := by simp; omega
      rw [h1]
      have z1 : (strValues xs).toArray.size = xs.length := by simp [strValues]
      have z2 : (strValues ys).toArray.size = ys.length := by simp [strValues]
      rw [z1, z2]
      cases h2 : ys.drop i with
      | nil =>
        have : ys.length ≤ i := by simpa using h2
        simp; omega
      | cons y r =>
        have : i < ys.length := by
          have := congrArg List.length h2
          simp at this; omega
        simp; omega
    rw [decide_eq_decide.mpr e] at h
    exact h
  | succ k ih =>
    intro i hk hi hj prog w A R s h
    obtain ⟨hp, g, d, tk, os⟩ := s; obtain ⟨hl, hb, h⟩ := h
    wp_walk using wpAny_loadPart' hl, wpAny_loadPart' hb
    have hlt : i < xs.length := by omega
    have hi1 : (strValues xs).toArray[((i : Nat) : Int).toNat]? = some (.str xs[i].1 xs[i].2) := by rw [Int.toNat_natCast, strs_get]; simp [hlt]
    have hc : ((i : Int) + 1) = ((i + 1 : Nat) : Int) := by push_cast; rfl
    by_cases hlt2 : i < ys.length
    · have hi2 : (strValues ys).toArray[((i : Nat) : Int).toNat]? = some (.str ys[i].1 ys[i].2) := by rw [Int.toNat_natCast, strs_get]; simp [hlt2]
      have hd1 : xs.drop i = xs[i] :: xs.drop (i + 1) := List.drop_eq_getElem_cons hlt
      have hd2 : ys.drop i = ys[i] :: ys.drop (i + 1) := List.drop_eq_getElem_cons hlt2
      have hx : (ksOf (xs.drop i) < ksOf (ys.drop i)) ↔ (xs[i].1.cps.toList < ys[i].1.cps.toList ∨ xs[i].1.cps.toList = ys[i].1.cps.toList ∧ ksOf (xs.drop (i + 1)) < ksOf (ys.drop (i + 1))) := by
        rw [hd1, hd2]
        exact ks_cons_lt
      rw [hi1, hi2]
      refine wpAny_bind (PyProof.Rows.eqBool_str ?_)
      rw [cps_eq]
      by_cases hq : xs[i].1.cps.toList = ys[i].1.cps.toList
      · rw [decide_eq_true hq]
        wp_walk
        rw [hc]
        refine ⟨plainId_quiet PySem.MeetsSeq3.plain_eq_loop _, codeAny_builtin PySem.MeetsSeq3.entry_eq_loop (by
          rw [Around.under_plainId PySem.MeetsSeq3.plain_eq_loop _]
          refine ih (i + 1) (by omega) (by omega) (by omega) prog w A R _ ⟨hl, hb, ?_⟩
          rw [decide_eq_decide.mpr hx] at h
          have : decide (xs[i].1.cps.toList < ys[i].1.cps.toList ∨ xs[i].1.cps.toList = ys[i].1.cps.toList ∧ ksOf (xs.drop (i + 1)) < ksOf (ys.drop (i + 1))) = decide (ksOf (xs.drop (i + 1)) < ksOf (ys.drop (i + 1))) := by
            rw [decide_eq_decide]
            rw [hq]
            constructor
            · rintro (q | q)
              · exact absurd q (List.lt_irrefl _)
              · exact q.2
            · exact fun q => .inr ⟨rfl, q⟩
          rw [this] at h
          exact h)⟩
      · rw [decide_eq_false hq]
        wp_walk using wpAny_loadPart' hl, wpAny_loadPart' hb
        rw [hi1, hi2]
        refine wpAny_bind (P.lt_str ?_)
        have : decide (ksOf (xs.drop i) < ksOf (ys.drop i)) = decide (xs[i].1.cps.toList < ys[i].1.cps.toList) := by
          rw [decide_eq_decide, hx]
          constructor
          · rintro (q | q)
            · exact q
            · exact absurd q.1 hq
          · exact .inl
        rw [this] at h
        exact wpAny_pure h
    · have hi2 : (strValues ys).toArray[((i : Nat) : Int).toNat]? = none := by rw [Int.toNat_natCast, strs_get]; simp; omega
      rw [hi1, hi2]
      wp_walk using wpAny_loadPart' hl, wpAny_loadPart' hb
      have e : (ksOf (xs.drop i) < ksOf (ys.drop i)) ↔ (strValues xs).toArray.size < (strValues ys).toArray.size := by
        have h1 : ys.drop i = [] := by simp; omega
        rw [h1]
        have z1 : (strValues xs).toArray.size = xs.length := by simp [strValues]
        have z2 : (strValues ys).toArray.size = ys.length := by simp [strValues]
        rw [z1, z2]
        simp; omega
      rw [decide_eq_decide.mpr e] at h
      exact h
theorem list_lt (a b : Addr) (xs ys : List (Str × Tok)) (n n2 : Nat) : Meets (Builtin.«list.__lt__» ⟨[.ref a, .ref b], []⟩)
    (fun _ R s => s.heap.get? a = some { cls := .type "list", dict := none, data := .seq (strValues xs).toArray n, slots := #[] } ∧ s.heap.get? b = some { cls := .type "list", dict := none, data := .seq (strValues ys).toArray n2, slots := #[] } ∧
      R (.ok (.ret (.bool (decide (ksOf xs < ksOf ys))))) s) := by
  intro prog w A R s h
  obtain ⟨hp, g, d, tk, os⟩ := s; obtain ⟨hl, hb, h⟩ := h
  have f3 := PySem.AutoSeq1.sub_list_list
  wp_walk using wpAny_loadPart' hl, wpAny_loadPart' hb
  exact ⟨plainId_quiet PySem.MeetsSeq3.plain_eq_loop _, codeAny_builtin PySem.MeetsSeq3.entry_eq_loop (by
    rw [Around.under_plainId PySem.MeetsSeq3.plain_eq_loop _]
    exact lt_loop a b xs ys n n2 _ 0 rfl (Nat.zero_le _) (Nat.zero_le _) prog w A R _ ⟨hl, hb, by simpa using h⟩)⟩
end Mine

end
section
open PySem PySem.W PyProof.Rows
set_option Elab.async false
set_option autoImplicit false
set_option linter.unusedVariables false
namespace Mine
open PySem.AutoSeq1 (wpAny_loadPart')
theorem gt_loop (a b : Addr) (xs ys : List (Str × Tok)) (n n2 : Nat) (k : Nat) : ∀ i : Nat, xs.length - i = k → i ≤ xs.length → i ≤ ys.length → Meets (Builtin.«list.__eq__.loop» ⟨[.ref a, .ref b, rawInt i, rawInt 4], []⟩)
    (fun _ R s => s.heap.get? a = some { cls := .type "list", dict := none, data := .seq (strValues xs).toArray n, slots := #[] } ∧ s.heap.get? b = some { cls := .type "list", dict := none, data := .seq (strValues ys).toArray n2, slots := #[] } ∧
      R (.ok (.ret (.bool (decide (ksOf (ys.drop i) < ksOf (xs.drop i)))))) s) := by
  induction k with
  | zero =>
    intro i hk hi hj prog w A R s h
    obtain ⟨hp, g, d, tk, os⟩ := s; obtain ⟨hl, hb, h⟩ := h
    wp_walk using wpAny_loadPart' hl, wpAny_loadPart' hb
    have hi0 : i = xs.length := by omega
    have hi1 : (strValues xs).toArray[((i : Nat) : Int).toNat]? = none := by rw [Int.toNat_natCast, strs_get]; simp; omega
    rw [hi1]
    wp_walk using wpAny_loadPart' hl, wpAny_loadPart' hb
    have e : (ksOf (ys.drop i) < ksOf (xs.drop i)) ↔ (strValues ys).toArray.size < (strValues xs).toArray.size := by
      have h1 : xs.drop i = [] := by simp; omega
      rw [h1]
      have z1 : (strValues xs).toArray.size = xs.length := by simp [strValues]
      have z2 : (strValues ys).toArray.size = ys.length := by simp [strValues]
      rw [z1, z2]
      simp; omega
    rw [decide_eq_decide.mpr e] at h
    exact h
  | succ k ih =>
    intro i hk hi hj prog w A R s h
    obtain ⟨hp, g, d, tk, os⟩ := s; obtain ⟨hl, hb, h⟩ := h
    wp_walk using wpAny_loadPart' hl, wpAny_loadPart' hb
    have hlt : i < xs.length := by omega
    have hi1 : (strValues xs).toArray[((i : Nat) : Int).toNat]? = some (.str xs[i].1 xs[i].2) := by rw [Int.toNat_natCast, strs_get]; simp [hlt]
    have hc : ((i : Int) + 1) = ((i + 1 : Nat) : Int) := by push_cast; rfl
    by_cases hlt2 : i < ys.length
    · have hi2 : (strValues ys).toArray[((i : Nat) : Int).toNat]? = some (.str ys[i].1 ys[i].2) := by rw [Int.toNat_natCast, strs_get]; simp [hlt2]
      have hd1 : xs.drop i = xs[i] :: xs.drop (i + 1) := List.drop_eq_getElem_cons hlt
      have hd2 : ys.drop i = ys[i] :: ys.drop (i + 1) := List.drop_eq_getElem_cons hlt2
      have hx : (ksOf (ys.drop i) < ksOf (xs.drop i)) ↔ (ys[i].1.cps.toList < xs[i].1.cps.toList ∨ ys[i].1.cps.toList = xs[i].1.cps.toList ∧ ksOf (ys.drop (i + 1)) < ksOf (xs.drop (i + 1))) := by
        rw [hd1, hd2]
        exact ks_cons_lt
      rw [hi1, hi2]
      refine wpAny_bind (PyProof.Rows.eqBool_str ?_)
      rw [cps_eq]
      by_cases hq : xs[i].1.cps.toList = ys[i].1.cps.toList
      · rw [decide_eq_true hq]
        wp_walk
        rw [hc]
        refine ⟨plainId_quiet PySem.MeetsSeq3.plain_eq_loop _, codeAny_builtin PySem.MeetsSeq3.entry_eq_loop (by
          rw [Around.under_plainId PySem.MeetsSeq3.plain_eq_loop _]
          refine ih (i + 1) (by omega) (by omega) (by omega) prog w A R _ ⟨hl, hb, ?_⟩
          rw [decide_eq_decide.mpr hx] at h
          have : decide (ys[i].1.cps.toList < xs[i].1.cps.toList ∨ ys[i].1.cps.toList = xs[i].1.cps.toList ∧ ksOf (ys.drop (i + 1)) < ksOf (xs.drop (i + 1))) = decide (ksOf (ys.drop (i + 1)) < ksOf (xs.drop (i + 1))) := by
            rw [decide_eq_decide]
            rw [hq]
            constructor
            · rintro (q | q)
              · exact absurd q (List.lt_irrefl _)
              · exact q.2
            · exact fun q => .inr ⟨rfl, q⟩
          rw [this] at h
          exact h)⟩
      · rw [decide_eq_false hq]
        wp_walk using wpAny_loadPart' hl, wpAny_loadPart' hb
        rw [hi1, hi2]
        refine wpAny_bind (P.gt_str ?_)
        have : decide (ksOf (ys.drop i) < ksOf (xs.drop i)) = decide (ys[i].1.cps.toList < xs[i].1.cps.toList) := by
          rw [decide_eq_decide, hx]
          constructor
          · rintro (q | q)
            · exact q
            · exact absurd q.1.symm hq
          · exact .inl
        rw [this] at h
        exact wpAny_pure h
    · have hi2 : (strValues ys).toArray[((i : Nat) : Int).toNat]? = none := by rw [Int.toNat_natCast, strs_get]; simp; omega
      rw [hi1, hi2]
      wp_walk using wpAny_loadPart' hl, wpAny_loadPart' hb
      have e : (ksOf (ys.drop i) < ksOf (xs.drop i)) ↔ (strValues ys).toArray.size < (strValues xs).toArray.size := by
        have h1 : ys.drop i = [] := by simp; omega
        rw [h1]
        have z1 : (strValues xs).toArray.size = xs.length := by simp [strValues]
        have z2 : (strValues ys).toArray.size = ys.length := by simp [strValues]
        rw [z1, z2]
        cases h2 : xs.drop i with
        | nil =>
          have : xs.length ≤ i := by simpa using h2
          omega
        | cons y r => simp; omega
      rw [decide_eq_decide.mpr e] at h
      exact h
theorem list_gt (a b : Addr) (xs ys : List (Str × Tok)) (n n2 : Nat) : Meets (Builtin.«list.__gt__» ⟨[.ref a, .ref b], []⟩)
    (fun _ R s => s.heap.get? a = some { cls := .type "list", dict := none, data := .seq (strValues xs).toArray n, slots := #[] } ∧ s.heap.get? b = some { cls := .type "list", dict := none, data := .seq (strValues ys).toArray n2, slots := #[] } ∧
      R (.ok (.ret (.bool (decide (ksOf ys < ksOf xs))))) s) := by
  intro prog w A R s h
  obtain ⟨hp, g, d, tk, os⟩ := s; obtain ⟨hl, hb, h⟩ := h
  have f3 := PySem.AutoSeq1.sub_list_list
  wp_walk using wpAny_loadPart' hl, wpAny_loadPart' hb
  exact ⟨plainId_quiet PySem.MeetsSeq3.plain_eq_loop _, codeAny_builtin PySem.MeetsSeq3.entry_eq_loop (by
    rw [Around.under_plainId PySem.MeetsSeq3.plain_eq_loop _]
    exact gt_loop a b xs ys n n2 _ 0 rfl (Nat.zero_le _) (Nat.zero_le _) prog w A R _ ⟨hl, hb, by simpa using h⟩)⟩
noncomputable abbrev kS (xs : List Str) : List (List Nat) := xs.map fun x => x.cps.toList
theorem rc_lt {prog : Program} {w : World} {A : Around} {E : Value → Shared → Prop} {s : Shared} {a b : Addr} {xs ys : List Str} {Q : Value → Shared → Prop} (ha : SL s.heap a xs) (hb : SL s.heap b ys) (hu : A.units < cLine) (h : Q (.bool (decide (kS xs < kS ys))) s) :
    wpAny (model prog w) A (richCompare .Lt (.ref a) (.ref b)) Q E s := by
  obtain ⟨l1, ⟨o1, ho1, n1, rfl⟩, rfl⟩ := ha
  obtain ⟨l2, ⟨o2, ho2, n2, rfl⟩, rfl⟩ := hb
  refine richCompare_meets_room (op := .Lt) ⟨_, ho1, rfl⟩ ⟨_, ho2, rfl⟩ PySem.F.slot_list_lt PySem.F.entry_list_lt (PySem.F.args_list_lt_2 _ _) (list_lt a b l1 l2 n1 n2) ⟨ho1, ho2, ?_⟩ hu
  exact ⟨(fun e => Value.noConfusion e), (by simpa [kS, ksOf, List.map_map, Function.comp_def] using h)⟩
theorem rc_gt {prog : Program} {w : World} {A : Around} {E : Value → Shared → Prop} {s : Shared} {a b : Addr} {xs ys : List Str} {Q : Value → Shared → Prop} (ha : SL s.heap a xs) (hb : SL s.heap b ys) (hu : A.units < cLine) (h : Q (.bool (decide (kS ys < kS xs))) s) :
    wpAny (model prog w) A (richCompare .Gt (.ref a) (.ref b)) Q E s := by
  obtain ⟨l1, ⟨o1, ho1, n1, rfl⟩, rfl⟩ := ha
  obtain ⟨l2, ⟨o2, ho2, n2, rfl⟩, rfl⟩ := hb
  refine richCompare_meets_room (op := .Gt) ⟨_, ho1, rfl⟩ ⟨_, ho2, rfl⟩ PySem.F.slot_list_gt PySem.F.entry_list_gt (PySem.F.args_list_gt_2 _ _) (list_gt a b l1 l2 n1 n2) ⟨ho1, ho2, ?_⟩ hu
  exact ⟨(fun e => Value.noConfusion e), (by simpa [kS, ksOf, List.map_map, Function.comp_def] using h)⟩
end Mine

end
section
open PySem PySem.W PyProof.Rows
set_option Elab.async false
set_option autoImplicit false
set_option linter.unusedVariables false
set_option maxRecDepth 100000
namespace Mine
section
variable {c : Cx} {B : Heap} {m : Lo} {own : Ow}
theorem next_item {it l : Addr} {i : Nat} {vs : List Value} {v : Value} {s : Shared} {Q : Option Value → Shared → Prop} {E : Value → Shared → Prop} (hl : Ls B l vs) (hv : vs[i]? = some v) (F : Fm c B m ((it, isLI l i) :: own) s)
    (h : ∀ s', Fm c B m ((it, isLI l (i + 1)) :: own) s' → Q (some v) s') : wpAny (Md c.w) c.A (pyNext (.ref it)) Q E s := by
  obtain ⟨o, ho, hc, hd⟩ := F.ow _ (.head _)
  have hit : s.heap.IsListIter it l i := ⟨o, ho, hc, hd⟩
  with_reducible refine wpAny_pyNext_list_item (it := it) (l := l) (i := i) (x := v) hit (hl.ext F.frz).list (by simpa using hv) fun h' hit hs => h _ ?_
  obtain ⟨o', ho', hc', hd'⟩ := hit
  exact F.step hs ho' ⟨hc', hd'⟩ rfl rfl (Nat.le_refl _)
theorem next_end {it l : Addr} {i : Nat} {vs : List Value} {s : Shared} {Q : Option Value → Shared → Prop} {E : Value → Shared → Prop} (hh : c.A.handled = none) (hl : Ls B l vs) (hv : vs[i]? = none) (F : Fm c B m ((it, isLI l i) :: own) s)
    (h : ∀ s', Fm c B m own s' → Q none s') : wpAny (Md c.w) c.A (pyNext (.ref it)) Q E s := by
  obtain ⟨o, ho, hc, hd⟩ := F.ow _ (.head _)
  have hit : s.heap.IsListIter it l i := ⟨o, ho, hc, hd⟩
  with_reducible refine wpAny_pyNext_list_end (it := it) (l := l) (i := i) hh hit (hl.ext F.frz).list (by simpa using hv) fun h' hx => h _ ?_
  exact F.lose (k := s.toks) (d := s.drawn) hx (Nat.le_refl _)
theorem min_loop {it l S : Addr} {vs : List Value} {bt : Nat → Nat → Bool} (hh : c.A.handled = none) (hl : Ls B l vs)
    (hc : ∀ B' own' i j vi vj, vs[i]? = some vi → vs[j]? = some vj → Bs c.n B B' → GV (atU c (c.A.units + 1)) B' m own' (richCompare .Lt vi vj) fun _ r => r = .bool (bt i j)) :
    ∀ k j s B' vb (R : Result → Shared → Prop), vs.length - (j + 1) = k → j + 1 ≤ vs.length → Bs c.n B B' → Fm c B' m ((it, isLI l (j + 1)) :: (S, isL [vb, vb]) :: own) s → vs[argBest bt j]? = some vb →
      (∀ s' B'' v, Bs c.n B' B'' → Fm c B'' m own s' → vs[argBest bt (vs.length - 1)]? = some v → R (.ok (.ret v)) s') → codeAny (Md c.w) c.A (.builtin "min.loop" ⟨[.ref it, .none, .ref S], []⟩) R s := by
  have hname : (toString "min" ++ toString ".loop" : String) = "min.loop" := by decide
  intro k
  induction k with
  | zero =>
    intro j s B' vb R hk hj b F hvb hR
    have hin : j + 1 = vs.length := by omega
    obtain ⟨o, ho, n, rfl⟩ := F.ow _ (.tail _ (.head _))
    refine codeAny_builtin PySem.F.entry_min_loop ?_
    rw [Around.under_plainId PySem.F.plain_min_loop _]
    show wpAny _ c.A.in1 (seqItems? (.ref S) >>= _) _ _ s
    refine wpAny_bind (wpAny_seqItems ho rfl ?_)
    show wpAny _ c.A.in1 (tryCatch (pyNext (.ref it)) _ >>= _) _ _ s
    refine wpAny_bind (wpAny_tryCatch (next_end (c := atU c (c.A.units + 1)) hh (hl.ext b.ext) (by simp; omega) F.atU fun s' F' => ?_))
    have F2 := F'.ofU
    obtain ⟨o', ho', n', rfl⟩ := F2.ow _ (.head _)
    have F3 := Fm.mapL (pre := []) (vs := [vb, vb]) (ws := []) (f := fun _ => (#[] : Array Value)) F2 (by simp)
    show wpAny _ c.A.in1 (updateSeq S (fun _ => #[]) >>= _) _ _ _
    refine wpAny_bind ?_
    refine wpAny_updateSeq ho' rfl (wpAny_bind (wpAny_letGo (wpAny_pure ?_)))
    exact hR _ B' vb (Bs.refl _ _) F3.drop (by rw [← hin]; exact hvb)
  | succ k ih =>
    intro j s B' vb R hk hj b F hvb hR
    have hlt : j + 1 < vs.length := by omega
    obtain ⟨o, ho, n, rfl⟩ := F.ow _ (.tail _ (.head _))
    refine codeAny_builtin PySem.F.entry_min_loop ?_
    rw [Around.under_plainId PySem.F.plain_min_loop _]
    show wpAny _ c.A.in1 (seqItems? (.ref S) >>= _) _ _ s
    refine wpAny_bind (wpAny_seqItems ho rfl ?_)
    show wpAny _ c.A.in1 (tryCatch (pyNext (.ref it)) _ >>= _) _ _ s
    have hv : vs[j + 1]? = some vs[j + 1] := List.getElem?_eq_getElem hlt
    refine wpAny_bind (wpAny_tryCatch (next_item (c := atU c (c.A.units + 1)) (hl.ext b.ext) hv F.atU fun s' F' => ?_))
    generalize vs[j + 1] = v at hv
    show wpAny _ c.A.in1 (tryCatch (holding [v, v] (richCompare .Lt v vb >>= _)) _ >>= _) _ _ _
    refine wpAny_bind (wpAny_tryCatch (wpAny_holding (wpAny_bind ((hc B' _ (j + 1) (argBest bt j) v vb hv hvb b).run s' _ _ F' fun r s2 B2 b2 F2 hr => ?_))))
    subst hr
    refine wpAny_bind (wpAny_holding (wpAny_truthy_bool ?_))
    refine wpAny_bind (wpAny_letGo (wpAny_pure ?_))
    have F3 := F2.ofU
    have F4 := F3.perm (List.Perm.swap (S, isL [vb, vb]) (it, isLI l (j + 1 + 1)) own)
    cases hb : bt (j + 1) (argBest bt j) with
    | true =>
      simp only [if_true]
      refine wpAny_bind ?_
      obtain ⟨o', ho', n', rfl⟩ := F4.ow _ (.head _)
      have F5 := Fm.mapL (pre := []) (vs := [vb, vb]) (ws := [v, v]) (f := fun _ => (#[v, v] : Array Value)) F4 (by simp)
      refine wpAny_updateSeq ho' rfl (wpAny_bind (wpAny_letGo ?_))
      rw [hname]
      refine wpAny_pure ⟨plainId_quiet PySem.F.plain_min_loop _, ih (j + 1) _ B2 v _ (by omega) hlt (b.trans b2) (F5.perm (List.Perm.swap (it, isLI l (j + 1 + 1)) (S, isL [v, v]) own)) (by simp only [argBest, hb, if_true]; exact hv) fun s3 B3 v3 b3 F6 h3 => hR s3 B3 v3 (b2.trans b3) F6 h3⟩
    | false =>
      simp only [Bool.false_eq_true, if_false]
      refine wpAny_bind (wpAny_letGo ?_)
      rw [hname]
      refine wpAny_pure ⟨plainId_quiet PySem.F.plain_min_loop _, ih (j + 1) _ B2 vb _ (by omega) hlt (b.trans b2) F3 (by simp only [argBest, hb, Bool.false_eq_true, if_false]; exact hvb) fun s3 B3 v3 b3 F6 h3 => hR s3 B3 v3 (b2.trans b3) F6 h3⟩
theorem gv_min_list {l : Addr} {vs : List Value} {bt : Nat → Nat → Bool} (hh : c.A.handled = none) (hl : Ls B l vs) (hn : 0 < vs.length)
    (hc : ∀ B' own' i j vi vj, vs[i]? = some vi → vs[j]? = some vj → Bs c.n B B' → GV (atU c (c.A.units + 1)) B' m own' (richCompare .Lt vi vj) fun _ r => r = .bool (bt i j)) :
    GV c B m own (call (.builtin "min") [.ref l]) fun _ v => vs[argBest bt (vs.length - 1)]? = some v :=
  ⟨fun s Q E F q => by
    have hname : (toString "min" ++ toString ".loop" : String) = "min.loop" := by decide
    refine PySem.call_function_tree PySem.F.kind_min PySem.F.plain_min PySem.F.entry_min (PySem.F.args_min1 _) ?_
    show wpAny _ c.A.in1 (Builtin.Builtins.bindParams "min" ["key", "default"] 0 ⟨[], []⟩ >>= _) _ _ s
    refine wpAny_bind (wpAny_of_eq (show Builtin.Builtins.bindParams "min" ["key", "default"] 0 ⟨[], []⟩ = Pure.pure [none, none] from rfl) ?_)
    refine wpAny_bind (wpAny_pure ?_)
    refine wpAny_bind ((GV.iterL (c := atU c (c.A.units + 1)) hl).run s _ _ F.atU fun w s1 B1 b1 F1 hw => ?_)
    obtain ⟨it, rfl, hit, o, ho, hS⟩ := hw
    have F2 := F1.ofU.take b1 hit ho hS
    have b2 := less_bs b1 hit
    generalize less B1 it = B2 at F2 b2
    refine wpAny_bind (wpAny_newObj_type ?_)
    have g2 : Grow s1 { s1 with heap := s1.heap.push { cls := .type "list", data := .seq ([] : List Value).toArray } } := ⟨fun b o e => Heap.get?_push_of_some _ e, by simp, rfl, rfl⟩
    obtain ⟨b3, F3⟩ := F2.grow g2 F2.tk
    have b3' := b3.low F2.size
    have F4 := F3.take (P := isL []) b3' F2.fresh (grown_new (Heap.get?_push_size _ rfl) (Nat.le_refl _)) ⟨0, rfl⟩
    have b4 := less_bs b3' F2.fresh
    generalize less (grown B2 s1 { s1 with heap := s1.heap.push { cls := .type "list", data := .seq ([] : List Value).toArray } }) s1.heap.objs.size = B4 at F4 b4
    have bb := b2.trans b4
    rw [hname]
    refine wpAny_pure ⟨plainId_quiet PySem.F.plain_min_loop _, ?_⟩
    refine codeAny_builtin PySem.F.entry_min_loop ?_
    rw [Around.under_plainId PySem.F.plain_min_loop _]
    obtain ⟨o4, ho4, n4, rfl⟩ := F4.ow _ (.head _)
    show wpAny _ c.A.in1 (seqItems? (.ref s1.heap.objs.size) >>= _) _ _ _
    refine wpAny_bind (wpAny_seqItems ho4 rfl ?_)
    show wpAny _ c.A.in1 (tryCatch (pyNext (.ref it)) _ >>= _) _ _ _
    have hv : vs[0]? = some vs[0] := List.getElem?_eq_getElem hn
    have F5 := F4.perm (List.Perm.swap (it, isLI l 0) (s1.heap.objs.size, isL []) own)
    refine wpAny_bind (wpAny_tryCatch (next_item (c := atU c (c.A.units + 1)) (hl.ext bb.ext) hv F5.atU fun s' F' => ?_))
    generalize vs[0] = v at hv
    have F6 := F'.ofU.perm (List.Perm.swap (s1.heap.objs.size, isL []) (it, isLI l (0 + 1)) own)
    obtain ⟨o6, ho6, n6, rfl⟩ := F6.ow _ (.head _)
    have F7 := Fm.mapL (pre := []) (vs := []) (ws := [v, v]) (f := fun _ => (#[v, v] : Array Value)) F6 (by simp)
    show wpAny _ c.A.in1 (updateSeq s1.heap.objs.size (fun _ => #[v, v]) >>= _) _ _ _
    refine wpAny_bind ?_
    refine wpAny_updateSeq ho6 rfl ?_
    rw [hname]
    exact wpAny_pure ⟨plainId_quiet PySem.F.plain_min_loop _, min_loop (own := own) hh (hl.ext bb.ext) (fun B' own' i j vi vj h1 h2 b => hc B' own' i j vi vj h1 h2 (bb.trans b)) _ 0 _ B4 v _ rfl hn (Bs.refl _ _) (F7.perm (List.Perm.swap (it, isLI l (0 + 1)) (s1.heap.objs.size, isL [v, v]) own)) hv fun s3 B3 v3 b3 F8 h3 => q v3 s3 B3 (bb.trans b3) F8 h3⟩⟩
theorem max_loop {it l S : Addr} {vs : List Value} {bt : Nat → Nat → Bool} (hh : c.A.handled = none) (hl : Ls B l vs)
    (hc : ∀ B' own' i j vi vj, vs[i]? = some vi → vs[j]? = some vj → Bs c.n B B' → GV (atU c (c.A.units + 1)) B' m own' (richCompare .Gt vi vj) fun _ r => r = .bool (bt i j)) :
    ∀ k j s B' vb (R : Result → Shared → Prop), vs.length - (j + 1) = k → j + 1 ≤ vs.length → Bs c.n B B' → Fm c B' m ((it, isLI l (j + 1)) :: (S, isL [vb, vb]) :: own) s → vs[argBest bt j]? = some vb →
      (∀ s' B'' v, Bs c.n B' B'' → Fm c B'' m own s' → vs[argBest bt (vs.length - 1)]? = some v → R (.ok (.ret v)) s') → codeAny (Md c.w) c.A (.builtin "max.loop" ⟨[.ref it, .none, .ref S], []⟩) R s := by
  have hname : (toString "max" ++ toString ".loop" : String) = "max.loop" := by decide
  intro k
  induction k with
  | zero =>
    intro j s B' vb R hk hj b F hvb hR
    have hin : j + 1 = vs.length := by omega
    obtain ⟨o, ho, n, rfl⟩ := F.ow _ (.tail _ (.head _))
    refine codeAny_builtin PySem.F.entry_max_loop ?_
    rw [Around.under_plainId PySem.F.plain_max_loop _]
    show wpAny _ c.A.in1 (seqItems? (.ref S) >>= _) _ _ s
    refine wpAny_bind (wpAny_seqItems ho rfl ?_)
    show wpAny _ c.A.in1 (tryCatch (pyNext (.ref it)) _ >>= _) _ _ s
    refine wpAny_bind (wpAny_tryCatch (next_end (c := atU c (c.A.units + 1)) hh (hl.ext b.ext) (by simp; omega) F.atU fun s' F' => ?_))
    have F2 := F'.ofU
    obtain ⟨o', ho', n', rfl⟩ := F2.ow _ (.head _)
    have F3 := Fm.mapL (pre := []) (vs := [vb, vb]) (ws := []) (f := fun _ => (#[] : Array Value)) F2 (by simp)
    show wpAny _ c.A.in1 (updateSeq S (fun _ => #[]) >>= _) _ _ _
    refine wpAny_bind ?_
    refine wpAny_updateSeq ho' rfl (wpAny_bind (wpAny_letGo (wpAny_pure ?_)))
    exact hR _ B' vb (Bs.refl _ _) F3.drop (by rw [← hin]; exact hvb)
  | succ k ih =>
    intro j s B' vb R hk hj b F hvb hR
    have hlt : j + 1 < vs.length := by omega
    obtain ⟨o, ho, n, rfl⟩ := F.ow _ (.tail _ (.head _))
    refine codeAny_builtin PySem.F.entry_max_loop ?_
    rw [Around.under_plainId PySem.F.plain_max_loop _]
    show wpAny _ c.A.in1 (seqItems? (.ref S) >>= _) _ _ s
    refine wpAny_bind (wpAny_seqItems ho rfl ?_)
    show wpAny _ c.A.in1 (tryCatch (pyNext (.ref it)) _ >>= _) _ _ s
    have hv : vs[j + 1]? = some vs[j + 1] := List.getElem?_eq_getElem hlt
    refine wpAny_bind (wpAny_tryCatch (next_item (c := atU c (c.A.units + 1)) (hl.ext b.ext) hv F.atU fun s' F' => ?_))
    generalize vs[j + 1] = v at hv
    show wpAny _ c.A.in1 (tryCatch (holding [v, v] (richCompare .Gt v vb >>= _)) _ >>= _) _ _ _
    refine wpAny_bind (wpAny_tryCatch (wpAny_holding (wpAny_bind ((hc B' _ (j + 1) (argBest bt j) v vb hv hvb b).run s' _ _ F' fun r s2 B2 b2 F2 hr => ?_))))
    subst hr
    refine wpAny_bind (wpAny_holding (wpAny_truthy_bool ?_))
    refine wpAny_bind (wpAny_letGo (wpAny_pure ?_))
    have F3 := F2.ofU
    have F4 := F3.perm (List.Perm.swap (S, isL [vb, vb]) (it, isLI l (j + 1 + 1)) own)
    cases hb : bt (j + 1) (argBest bt j) with
    | true =>
      simp only [if_true]
      refine wpAny_bind ?_
      obtain ⟨o', ho', n', rfl⟩ := F4.ow _ (.head _)
      have F5 := Fm.mapL (pre := []) (vs := [vb, vb]) (ws := [v, v]) (f := fun _ => (#[v, v] : Array Value)) F4 (by simp)
      refine wpAny_updateSeq ho' rfl (wpAny_bind (wpAny_letGo ?_))
      rw [hname]
      refine wpAny_pure ⟨plainId_quiet PySem.F.plain_max_loop _, ih (j + 1) _ B2 v _ (by omega) hlt (b.trans b2) (F5.perm (List.Perm.swap (it, isLI l (j + 1 + 1)) (S, isL [v, v]) own)) (by simp only [argBest, hb, if_true]; exact hv) fun s3 B3 v3 b3 F6 h3 => hR s3 B3 v3 (b2.trans b3) F6 h3⟩
    | false =>
      simp only [Bool.false_eq_true, if_false]
      refine wpAny_bind (wpAny_letGo ?_)
      rw [hname]
      refine wpAny_pure ⟨plainId_quiet PySem.F.plain_max_loop _, ih (j + 1) _ B2 vb _ (by omega) hlt (b.trans b2) F3 (by simp only [argBest, hb, Bool.false_eq_true, if_false]; exact hvb) fun s3 B3 v3 b3 F6 h3 => hR s3 B3 v3 (b2.trans b3) F6 h3⟩
theorem gv_max_list {l : Addr} {vs : List Value} {bt : Nat → Nat → Bool} (hh : c.A.handled = none) (hl : Ls B l vs) (hn : 0 < vs.length)
    (hc : ∀ B' own' i j vi vj, vs[i]? = some vi → vs[j]? = some vj → Bs c.n B B' → GV (atU c (c.A.units + 1)) B' m own' (richCompare .Gt vi vj) fun _ r => r = .bool (bt i j)) :
    GV c B m own (call (.builtin "max") [.ref l]) fun _ v => vs[argBest bt (vs.length - 1)]? = some v :=
  ⟨fun s Q E F q => by
    have hname : (toString "max" ++ toString ".loop" : String) = "max.loop" := by decide
    refine PySem.call_function_tree PySem.F.kind_max PySem.F.plain_max PySem.F.entry_max (PySem.F.args_max1 _) ?_
    show wpAny _ c.A.in1 (Builtin.Builtins.bindParams "max" ["key", "default"] 0 ⟨[], []⟩ >>= _) _ _ s
    refine wpAny_bind (wpAny_of_eq (show Builtin.Builtins.bindParams "max" ["key", "default"] 0 ⟨[], []⟩ = Pure.pure [none, none] from rfl) ?_)
    refine wpAny_bind (wpAny_pure ?_)
    refine wpAny_bind ((GV.iterL (c := atU c (c.A.units + 1)) hl).run s _ _ F.atU fun w s1 B1 b1 F1 hw => ?_)
    obtain ⟨it, rfl, hit, o, ho, hS⟩ := hw
    have F2 := F1.ofU.take b1 hit ho hS
    have b2 := less_bs b1 hit
    generalize less B1 it = B2 at F2 b2
    refine wpAny_bind (wpAny_newObj_type ?_)
    have g2 : Grow s1 { s1 with heap := s1.heap.push { cls := .type "list", data := .seq ([] : List Value).toArray } } := ⟨fun b o e => Heap.get?_push_of_some _ e, by simp, rfl, rfl⟩
    obtain ⟨b3, F3⟩ := F2.grow g2 F2.tk
    have b3' := b3.low F2.size
    have F4 := F3.take (P := isL []) b3' F2.fresh (grown_new (Heap.get?_push_size _ rfl) (Nat.le_refl _)) ⟨0, rfl⟩
    have b4 := less_bs b3' F2.fresh
    generalize less (grown B2 s1 { s1 with heap := s1.heap.push { cls := .type "list", data := .seq ([] : List Value).toArray } }) s1.heap.objs.size = B4 at F4 b4
    have bb := b2.trans b4
    rw [hname]
    refine wpAny_pure ⟨plainId_quiet PySem.F.plain_max_loop _, ?_⟩
    refine codeAny_builtin PySem.F.entry_max_loop ?_
    rw [Around.under_plainId PySem.F.plain_max_loop _]
    obtain ⟨o4, ho4, n4, rfl⟩ := F4.ow _ (.head _)
    show wpAny _ c.A.in1 (seqItems? (.ref s1.heap.objs.size) >>= _) _ _ _
    refine wpAny_bind (wpAny_seqItems ho4 rfl ?_)
    show wpAny _ c.A.in1 (tryCatch (pyNext (.ref it)) _ >>= _) _ _ _
    have hv : vs[0]? = some vs[0] := List.getElem?_eq_getElem hn
    have F5 := F4.perm (List.Perm.swap (it, isLI l 0) (s1.heap.objs.size, isL []) own)
    refine wpAny_bind (wpAny_tryCatch (next_item (c := atU c (c.A.units + 1)) (hl.ext bb.ext) hv F5.atU fun s' F' => ?_))
    generalize vs[0] = v at hv
    have F6 := F'.ofU.perm (List.Perm.swap (s1.heap.objs.size, isL []) (it, isLI l (0 + 1)) own)
    obtain ⟨o6, ho6, n6, rfl⟩ := F6.ow _ (.head _)
    have F7 := Fm.mapL (pre := []) (vs := []) (ws := [v, v]) (f := fun _ => (#[v, v] : Array Value)) F6 (by simp)
    show wpAny _ c.A.in1 (updateSeq s1.heap.objs.size (fun _ => #[v, v]) >>= _) _ _ _
    refine wpAny_bind ?_
    refine wpAny_updateSeq ho6 rfl ?_
    rw [hname]
    exact wpAny_pure ⟨plainId_quiet PySem.F.plain_max_loop _, max_loop (own := own) hh (hl.ext bb.ext) (fun B' own' i j vi vj h1 h2 b => hc B' own' i j vi vj h1 h2 (bb.trans b)) _ 0 _ B4 v _ rfl hn (Bs.refl _ _) (F7.perm (List.Perm.swap (it, isLI l (0 + 1)) (s1.heap.objs.size, isL [v, v]) own)) hv fun s3 B3 v3 b3 F8 h3 => q v3 s3 B3 (bb.trans b3) F8 h3⟩⟩
/-- min and max of a list of two lists of texts -/
theorem gv_min_two {l a b : Addr} {xs ys : List Str} (hh : c.A.handled = none) (hu : c.A.units + 100 < cLine) (hl : Ls B l [.ref a, .ref b]) (ha : SL B a xs) (hb : SL B b ys) :
    GV c B m own (call (.builtin "min") [.ref l]) fun B' v => ∃ r, v = .ref r ∧ SL B' r (if kS ys < kS xs then ys else xs) := by
  have hc : ∀ B' own' i j vi vj, [Value.ref a, Value.ref b][i]? = some vi → [Value.ref a, Value.ref b][j]? = some vj → Bs c.n B B' → GV (atU c (c.A.units + 1)) B' m own' (richCompare .Lt vi vj) fun _ r => r = .bool (decide (kS (if i = 0 then xs else ys) < kS (if j = 0 then xs else ys))) := fun B' own' i j vi vj h1 h2 bb => by
    have key : ∀ i (vi : Value), [Value.ref a, Value.ref b][i]? = some vi → ∃ r, vi = .ref r ∧ SL B r (if i = 0 then xs else ys) := fun i vi h => by
      match i, h with
      | 0, h => cases h; exact ⟨a, rfl, ha⟩
      | 1, h => cases h; exact ⟨b, rfl, hb⟩
    obtain ⟨r1, rfl, k1⟩ := key i vi h1
    obtain ⟨r2, rfl, k2⟩ := key j vj h2
    exact GV.still fun s Q E F q => rc_lt ((k1.ext bb.ext).ext F.frz) ((k2.ext bb.ext).ext F.frz) (show c.A.units + 1 < cLine by omega) (q _ s.toks s.drawn rfl)
  refine (gv_min_list hh hl (by simp) hc).mono fun B' v bb h => ?_
  by_cases hlt : kS ys < kS xs
  · rw [if_pos hlt]
    simp [argBest, hlt] at h
    exact ⟨b, h.symm, hb.ext bb.ext⟩
  · rw [if_neg hlt]
    simp [argBest, hlt] at h
    exact ⟨a, h.symm, ha.ext bb.ext⟩
theorem gv_max_two {l a b : Addr} {xs ys : List Str} (hh : c.A.handled = none) (hu : c.A.units + 100 < cLine) (hl : Ls B l [.ref a, .ref b]) (ha : SL B a xs) (hb : SL B b ys) :
    GV c B m own (call (.builtin "max") [.ref l]) fun B' v => ∃ r, v = .ref r ∧ SL B' r (if kS xs < kS ys then ys else xs) := by
  have hc : ∀ B' own' i j vi vj, [Value.ref a, Value.ref b][i]? = some vi → [Value.ref a, Value.ref b][j]? = some vj → Bs c.n B B' → GV (atU c (c.A.units + 1)) B' m own' (richCompare .Gt vi vj) fun _ r => r = .bool (decide (kS (if j = 0 then xs else ys) < kS (if i = 0 then xs else ys))) := fun B' own' i j vi vj h1 h2 bb => by
    have key : ∀ i (vi : Value), [Value.ref a, Value.ref b][i]? = some vi → ∃ r, vi = .ref r ∧ SL B r (if i = 0 then xs else ys) := fun i vi h => by
      match i, h with
      | 0, h => cases h; exact ⟨a, rfl, ha⟩
      | 1, h => cases h; exact ⟨b, rfl, hb⟩
    obtain ⟨r1, rfl, k1⟩ := key i vi h1
    obtain ⟨r2, rfl, k2⟩ := key j vj h2
    exact GV.still fun s Q E F q => rc_gt ((k1.ext bb.ext).ext F.frz) ((k2.ext bb.ext).ext F.frz) (show c.A.units + 1 < cLine by omega) (q _ s.toks s.drawn rfl)
  refine (gv_max_list hh hl (by simp) hc).mono fun B' v bb h => ?_
  by_cases hlt : kS xs < kS ys
  · rw [if_pos hlt]
    simp [argBest, hlt] at h
    exact ⟨b, h.symm, hb.ext bb.ext⟩
  · rw [if_neg hlt]
    simp [argBest, hlt] at h
    exact ⟨a, h.symm, ha.ext bb.ext⟩
end
end Mine

end
section
open PySem PySem.W PyProof.Rows
set_option Elab.async false
set_option autoImplicit false
set_option linter.unusedVariables false
set_option maxRecDepth 100000
namespace Mine
section
variable {c : Cx} {B : Heap} {m : Lo} {own : Ow} {K : Flow → Heap → Lo → Ow → Prop} {rest : List Stmt}
theorem EX.callT {x : Str} {p pos : Pos} {e : Expr} {rest : List Expr} {T : String} {R : Heap → Ow → Value → Prop} (hx : VV c B m own (.Name x p) (.type T))
    (h : AV c B m own pos (e :: rest) fun B' vs => GX c B' m own (call (.type T) vs) R) (hs : ∀ env, starEach (e :: rest) env = (false, eval e env) :: starEach rest env) (hp : ∀ env, (backTo pos (starEach rest env)).any (·.1) = false) : EX c B m own (.Call (.Name x p) (e :: rest) [] pos) R :=
  ⟨fun B' b => ⟨fun s Q E F q => by
    with_reducible refine Call_ ((hx.run B' b).run s _ E F fun v s1 B1 b1 F1 r1 => ?_) rfl
    subst r1
    with_reducible refine PyProof.Rows.callWith_type1 ((h.run B1 (b.trans b1)).run s1 _ E F1 fun vs s2 B2 b2 F2 r2 => r2.run s2 Q E F2 fun v s3 B3 own3 b3 F3 r3 => q v s3 B3 own3 (b1.trans (b2.trans b3)) F3 r3) (hs _) (hp _)⟩⟩
/-- a type called with one argument that itself changes own objects -/
theorem EX.callT1 {x : Str} {p pos : Pos} {e : Expr} {T : String} {R1 R : Heap → Ow → Value → Prop} (hx : VV c B m own (.Name x p) (.type T)) (he : EX c B m own e R1)
    (h : ∀ B1 own1 v, Bs c.n B B1 → R1 B1 own1 v → GX c B1 m own1 (call (.type T) [v]) R) (hs : ∀ env, starEach [e] env = (false, eval e env) :: starEach [] env) : EX c B m own (.Call (.Name x p) [e] [] pos) R :=
  ⟨fun B' b => ⟨fun s Q E F q => by
    with_reducible refine Call_ ((hx.run B' b).run s _ E F fun v s1 B1 b1 F1 r1 => ?_) rfl
    subst r1
    with_reducible refine PyProof.Rows.callWith_type1 (args_cons ((he.run B1 (b.trans b1)).run s1 _ E F1 fun v s2 B2 own2 b2 F2 r2 => args_nil ?_) (hs _)) (hs _) rfl
    exact (h B2 own2 v (b.trans (b1.trans b2)) r2).run s2 Q E F2 fun v s3 B3 own3 b3 F3 r3 => q v s3 B3 own3 (b1.trans (b2.trans b3)) F3 r3⟩⟩
theorem EX.tupleMap {x1 x2 : Str} {p1 p2 q1 q2 : Pos} {e1 e2 : Expr} {f l : Addr} {vs : List Value} (hh : c.A.handled = none) (h1 : VV c B m own (.Name x1 p1) (.type "tuple")) (h2 : VV c B m own (.Name x2 p2) (.type "map")) (hf : VV c B m own e1 (.ref f)) (hl : VV c B m own e2 (.ref l)) (hL : Ls B l vs) (hz : vs.length ≤ sizeLine)
    (hcall : ∀ u B' own' v, v ∈ vs → Bs c.n B B' → GV (atU c u) B' m own' (call (.ref f) [v]) fun _ r => r = v) (hs : ∀ env, starEach [e1, e2] env = (false, eval e1 env) :: starEach [e2] env) (hs2 : ∀ env, starEach [e2] env = (false, eval e2 env) :: starEach [] env) :
    EX c B m own (.Call (.Name x1 p1) [.Call (.Name x2 p2) [e1, e2] [] q2] [] q1) fun B' own' v => ∃ a, v = .ref a ∧ own' = own ∧ Tu B' a vs :=
  EX.callT1 h1 (EX.callT (R := fun B' own' v => ∃ mp it, v = .ref mp ∧ own' = (it, isLI l 0) :: own ∧ Mp B' mp it f ∧ c.n ≤ it) h2 (AV.cons hf (fun B1 v b1 ev => AV.cons (hl.bs b1) (fun B2 u b2 eu => AV.nil fun B3 b3 => by
      subst ev eu
      exact gx_map (hL.ext (b1.trans (b2.trans b3)).ext)) hs2) hs) hs fun env => by rw [hs2]; rfl)
    (fun B1 own1 v b1 r => by
      obtain ⟨mp, it, rfl, rfl, hm, hn⟩ := r
      exact (gx_tuple_map hh hm (hL.ext b1.ext) hz fun u B' own' v hv b => hcall u B' own' v hv (b1.trans b)).mono fun B2 own2 v b2 ⟨a, e1, e2, _, e4⟩ => ⟨a, e1, e2, e4⟩) fun _ => rfl
theorem gv_truthy_tuple {a : Addr} {vs : List Value} (ha : Tu B a vs) (hz : vs.length < 2 ^ 62) : GV c B m own (truthy (.ref a)) fun _ y => y = !vs.isEmpty :=
  GV.still fun s Q E F q => by
    have hT : IsTup s.heap a vs.toArray := ⟨_, F.frz _ _ ha, rfl, 0, rfl⟩
    refine truthy_tuple hT (by simp; omega) (q _ _ s.drawn ?_)
    simp
theorem gv_tail_tuple {value slice : Expr} {a : Addr} {vs : List Value} {k : Nat} {u : Tok} {v : Value} (ha : Tu B a vs) (hk : k < 2 ^ 62) (hv : vs[k]? = some v)
    (hs : subscripted slice false (.ref a) (.int k u) = operate [.ref a, .int k u] (getItem (.ref a) (.int k u))) : GV c B m own (subscriptTail value slice (.ref a) (.int k u)) fun _ r => r = v :=
  GV.still fun s Q E F q => by
    have hT : IsTup s.heap a vs.toArray := ⟨_, F.frz _ _ ha, rfl, 0, rfl⟩
    have hlt := (List.getElem?_eq_some_iff.mp hv).1
    exact item_tupleT (j := k) hT (by omega) (by omega) (by unfold seqIndex?; simp; omega) hv (q v s.toks s.drawn rfl) hs
/-! several own objects change at once -/
theorem Fm.multi {T T' : Ow} {s : Shared} {h' : Heap} {k : Nat} {d : Drawn} (F : Fm c B m (T ++ own) s) (hk : ∀ b o, b ∉ T.map (·.1) → s.heap.get? b = some o → h'.get? b = some o)
    (hT : ∀ p ∈ T', ∃ o, h'.get? p.1 = some o ∧ p.2 o) (he : (T'.map (·.1)).Sublist (T.map (·.1))) (ht : s.toks ≤ k) :
    ∃ B', Bs s.heap.objs.size B B' ∧ (∀ a o, s.heap.objs.size ≤ a → h'.get? a = some o → B'.get? a = some o) ∧ Fm c B' m (T' ++ own) { s with heap := h', toks := k, drawn := d } := by
  have nd := F.nd
  rw [List.map_append, List.nodup_append] at nd
  obtain ⟨nd1, nd2, nd3⟩ := nd
  have hTb : ∀ b, b ∈ T.map (·.1) → B.get? b = none ∧ b ≠ c.L ∧ (c.n ≤ b ∨ c.X b) ∧ b < s.heap.objs.size := fun b hb => by
    obtain ⟨p, hp, rfl⟩ := List.mem_map.mp hb
    have hp' : p ∈ T ++ own := List.mem_append.mpr (.inl hp)
    obtain ⟨o, ho, _⟩ := F.ow p hp'
    exact ⟨(F.bown p hp').1, (F.bown p hp').2.1, (F.bown p hp').2.2, Heap.lt_size ho⟩
  have hL : c.L ∉ T.map (·.1) := fun h => (hTb _ h).2.1 rfl
  have hns : h'.Ns c.L (fun x => m.lookup x) := by
    obtain ⟨o, es, ep, ho, r⟩ := F.ns
    exact ⟨o, es, ep, hk _ _ hL ho, r⟩
  have hB : ∀ b o, B.get? b = some o → h'.get? b = some o := fun b o e => hk b o (fun h => by rw [(hTb b h).1] at e; cases e) (F.frz _ _ e)
  let B' : Heap := restr h' fun i => (B.get? i).isSome || decide (s.heap.objs.size ≤ i)
  have hx : Ext B B' := fun b o e => by
    show (restr h' _).get? b = _; rw [restr_get, if_pos (by rw [e]; rfl)]; exact hB _ _ e
  have hn : ∀ b o, B'.get? b = some o → B.get? b = some o ∨ s.heap.objs.size ≤ b := fun b o e => by
    have e : (restr h' _).get? b = some o := e
    rw [restr_get] at e
    split at e
    · rename_i q
      rcases Bool.or_eq_true_iff.mp q with q | q
      · left
        obtain ⟨o', q⟩ := Option.isSome_iff_exists.mp q
        have := hB _ _ q
        rw [e] at this; cases this; exact q
      · exact .inr (of_decide_eq_true q)
    · cases e
  have hb : Bs s.heap.objs.size B B' := ⟨hx, hn⟩
  refine ⟨B', hb, fun a o ha e => ?_, ⟨F.gg, F.gx.trans hx, F.gn, fun b o h e => hk b o (fun hb => ?_) (F.keep b o h e), Nat.le_trans F.lL (Nat.le_of_lt hns.lt), fun b o e => ?_, hns, fun p hp => ?_, hb.none F.bL F.ns.lt, F.lL, fun p hp => ?_, ?_, F.gens, F.os, Nat.le_trans F.tk ht⟩⟩
  · show (restr h' _).get? a = _; rw [restr_get, if_pos (by simp [ha])]; exact e
  · rcases (hTb b hb).2.2.1 with h' | h'
    · exact absurd (Heap.lt_size e) (Nat.not_lt.mpr h')
    · exact h h'
  · have e : (restr h' _).get? b = some o := e
    rw [restr_get] at e
    split at e
    · exact e
    · cases e
  · rcases List.mem_append.mp hp with hp | hp
    · exact hT p hp
    · obtain ⟨o, ho, q⟩ := F.ow p (List.mem_append.mpr (.inr hp))
      exact ⟨o, hk _ _ (fun h => nd3 _ h _ (List.mem_map_of_mem hp) rfl) ho, q⟩
  · rcases List.mem_append.mp hp with hp | hp
    · have := hTb p.1 (he.subset (List.mem_map_of_mem hp))
      exact ⟨hb.none this.1 this.2.2.2, this.2.1, this.2.2.1⟩
    · have q := F.bown p (List.mem_append.mpr (.inr hp))
      obtain ⟨o, ho, _⟩ := F.ow p (List.mem_append.mpr (.inr hp))
      exact ⟨hb.none q.1 (Heap.lt_size ho), q.2⟩
  · rw [List.map_append, List.nodup_append]
    exact ⟨he.nodup nd1, nd2, fun x hx y hy e => nd3 x (he.subset hx) y hy e⟩
theorem Fm.dropN {T : Ow} {s : Shared} (F : Fm c B m (T ++ own) s) : Fm c B m own s := by
  induction T with
  | nil => exact F
  | cons p T ih => exact ih (Fm.drop F)
/-- an iterator that stands on several objects -/
structure NXm (c : Cx) (B0 : Heap) (z : Addr) (T : Nat → Ow) (i : Nat) (more : Bool) (target : Expr) (V : Heap → Value → Prop) : Prop where
  run : ∀ B m own s (Q : Option Value → Shared → Prop) E, Bs c.n B0 B → Fm c B m (T i ++ own) s →
    (more = true → ∀ v s', (∀ (Q : Unit → Shared → Prop) E, (∀ s'' B'', Bs c.n B B'' → V B'' v → Fm c B'' m (T (i + 1) ++ own) s'' → Q () s'') → wpAny (Md c.w) c.A (letOwnedTupleGo target (.ref z) v) Q E s') → Q (some v) s') →
    (more = false → ∀ s' B', Bs c.n B B' → Fm c B' m own s' → Q none s') → wpAny (Md c.w) c.A (pyNext (.ref z)) Q E s
noncomputable def forKm (c : Cx) (rest : List Stmt) (K : Flow → Heap → Lo → Ow → Prop) (T : Ow) (J : Heap → Lo → Ow → Prop) (f : Flow) (B : Heap) (m : Lo) (own : Ow) : Prop := ∃ own', own = T ++ own' ∧ match f with
  | .next | .cont => J B m own'
  | .brk => XW c B m own' (execs rest c.env) K
  | .ret v => K (.ret v) B m own'
theorem XW.forM {target iter : Expr} {body : List Stmt} {pos : Pos}
    (he : EX c B m own iter fun B1 own1 v => ∃ (z : Addr) (T : Nat → Ow) (len : Nat) (V : Nat → Heap → Value → Prop) (U : Nat → Heap → Lo → Lo → Prop) (I : Nat → Heap → Lo → Ow → Prop), v = .ref z ∧ own1 = T 0 ++ own ∧
      (∀ s (Q : Value → Shared → Prop) E, Fm c B1 m (T 0 ++ own) s → Q (.ref z) s → wpAny (Md c.w) c.A (pyIter (.ref z)) Q E s) ∧ (∀ i, NXm c B1 z T i (decide (i < len)) target (V i)) ∧ I 0 B1 m own ∧ (∀ i, i < len → TG c target (V i) (U i)) ∧
      (∀ i B0 B2 m0 m1 own1, i < len → Bs c.n B1 B0 → Bs c.n B0 B2 → I i B0 m0 own1 → U i B2 m0 m1 → XW c B2 m1 (T (i + 1) ++ own1) (execs body c.env) (forKm c rest K (T (i + 1)) (I (i + 1)))) ∧
      ∀ B2 B3 m1 own1, Bs c.n B1 B2 → I len B2 m1 own1 → Bs c.n B2 B3 → XW c B3 m1 own1 (execs rest c.env) K)
    (hs : ∀ x, foldedSetIterable iter c.env x = pure x) : XW c B m own (execs (.For target iter body [] pos :: rest) c.env) K :=
  XW.cons ⟨fun s Q E F q => by
    with_reducible refine wpAny_For ((he.run B (Bs.refl _ _)).run s _ E F fun v s1 B1 own1 b1 F1 r1 => ?_) hs
    obtain ⟨z, T, len, V, U, I, rfl, rfl, hself, hN, hI0, ht, turn, fin⟩ := r1
    refine hself s1 _ E F1 ?_
    with_reducible refine codeAny_forLoop_any (fun n s => ∃ i Bi m1 own1, n + i = len ∧ Bs c.n B1 Bi ∧ Fm c Bi m1 (T i ++ own1) s ∧ I i Bi m1 own1) (fun n s hI => ?_) len ⟨0, _, m, own, rfl, Bs.refl _ _, F1, hI0⟩
    obtain ⟨i, Bi, mi, owni, hni, bi', Fi, hIi⟩ := hI
    have bi := b1.trans bi'
    with_reducible refine (hN i).run Bi mi owni s _ _ bi' Fi (fun hm v s' hlet => ?_) (fun hm s' B' b' F' => ?_)
    · have hlt : i < len := of_decide_eq_true hm
      show wpAny _ _ _ _ _ _
      with_reducible refine hlet _ _ fun s'' B'' b'' hV F'' => ?_
      with_reducible refine (ht i hlt).run B'' mi _ v s'' _ _ hV F'' fun s3 B3 m3 b3 hU F3 => ?_
      with_reducible refine (turn i Bi B3 mi m3 owni hlt bi' (b''.trans b3) hIi hU).run s3 _ _ F3 fun f s4 B4 m4 own4 b4 F4 r4 => ?_
      obtain ⟨own5, rfl, r5⟩ := r4
      have b4' := b''.trans (b3.trans b4)
      have bb := bi.trans b4'
      cases f with
      | next => exact ⟨n - 1, by omega, i + 1, B4, m4, own5, by omega, bi'.trans b4', F4, r5⟩
      | cont => exact ⟨n - 1, by omega, i + 1, B4, m4, own5, by omega, bi'.trans b4', F4, r5⟩
      | brk => exact q .next s4 B4 m4 own5 bb F4.dropN r5
      | ret v => exact q (.ret v) s4 B4 m4 own5 bb F4.dropN r5
    · have hlt : ¬ i < len := of_decide_eq_false hm
      have : i = len := by omega
      subst this
      show wpAny _ _ _ _ _ _
      with_reducible refine wpAny_execs_nil ?_
      exact q .next s' B' mi owni (bi.trans b') F' (fin Bi B' mi owni bi' hIi b')⟩
theorem TG.two {x y : Str} {p1 p2 tp : Pos} {k : Nat} {W : Heap → Value → Value → Prop} (hh : c.A.handled = none) (hx : c.env.kindOf x = some .local) (hy : c.env.kindOf y = some .local) (hk : c.env.scope.kind = .function) :
    TG c (.Tuple [.Name x p1, .Name y p2] k tp) (fun B v => ∃ a v1 v2, v = .ref a ∧ Tu B a [v1, v2] ∧ W B v1 v2) fun B m m' => ∃ v1 v2, W B v1 v2 ∧ m' = put (put m x v1) y v2 :=
  ⟨fun B m own v s Q E hV F q => by
    obtain ⟨a, v1, v2, rfl, ht, hW⟩ := hV
    with_reducible refine wpAny_assign_Tuple hh (ht.ext F.frz).tup rfl rfl fun h' hx' => ?_
    have F2 : Fm c B m own { s with heap := h' } := F.extNew (k := s.toks) (d := s.drawn) hx' (Nat.le_refl _)
    show wpAny _ _ (assignInOrder [PySem.assign (.Name x p1) c.env, PySem.assign (.Name y p2) c.env] [v1, v2]) _ _ _
    with_reducible refine wpAny_assignInOrder_more (wpAny_assign_Name ?_)
    refine GV.sto (K := fun _ _ => True) hx hk _ _ E F2 fun s3 F3 => ?_
    with_reducible refine wpAny_assignInOrder_more (wpAny_assign_Name ?_)
    refine GV.sto (K := fun _ _ => True) hy hk _ _ E F3 fun s4 F4 => ?_
    with_reducible refine wpAny_assignInOrder_none ?_
    exact q s4 B _ (Bs.refl _ _) ⟨v1, v2, hW, rfl⟩ F4⟩
end
end Mine

end
section
open PySem PySem.W PyProof.Rows
set_option Elab.async false
set_option autoImplicit false
set_option linter.unusedVariables false
set_option maxRecDepth 100000
namespace Mine
noncomputable def isEn (it : Addr) (i : Nat) (o : Obj) : Prop := ∃ old, o = { cls := .type "enumerate", dict := none, data := .fields #[.none, .bool false, .ref it, rawInt i, .none, old], slots := #[] }
section
variable {c : Cx} {B : Heap} {m : Lo} {own : Ow}
theorem gx_enum {l : Addr} {vs : List Value} (hl : Ls B l vs) : GX c B m own (call (.type "enumerate") [.ref l]) fun B' own' v => ∃ e it, v = .ref e ∧ own' = (e, isEn it 0) :: (it, isLI l 0) :: own :=
  ⟨fun s Q E F q => by
    obtain ⟨o, ho, n, rfl⟩ := hl.ext F.frz
    refine PySem.call_enumerate_1 (items := vs.toArray) (n := n) ho fun h' he hit hz hk => ?_
    have g : Grow s { s with heap := h' } := ⟨hk, by show _ ≤ h'.objs.size; omega, rfl, rfl⟩
    obtain ⟨b1, F1⟩ := F.grow g F.tk
    obtain ⟨oi, hoi, hci, hdi⟩ := hit
    have hfr : B.get? (s.heap.objs.size + 1) = none := by
      cases q : B.get? (s.heap.objs.size + 1) with
      | none => rfl
      | some o => exact absurd (Heap.lt_size (F.frz _ _ q)) (Nat.not_lt.mpr (Nat.le_succ _))
    have F2 := F1.take (b1.low F.size) (P := isLI l 0) F.fresh (grown_new hoi (Nat.le_refl _)) ⟨hci, hdi⟩
    have b2 := less_bs (b1.low F.size) F.fresh
    have F3 := F2.take b2 (P := isEn s.heap.objs.size 0) hfr (by rw [less_get (Nat.succ_ne_self _)]; exact grown_new he (Nat.le_succ _)) ⟨_, rfl⟩
    exact q _ _ _ _ (less_bs b2 hfr) F3 ⟨_, _, rfl, rfl⟩⟩
theorem NXm.enum {B0 : Heap} {e it l : Addr} {vs : List Value} {elts : List Expr} {k : Nat} {tp : Pos} (hh : c.A.handled = none) (hL : Ls B0 l vs) (i : Nat) :
    NXm c B0 e (fun i => [(e, isEn it i), (it, isLI l i)]) i (decide (i < vs.length)) (.Tuple elts k tp) fun B v => ∃ a v1 v2, v = .ref a ∧ Tu B a [v1, v2] ∧ (∃ t, v1 = .int i t) ∧ vs[i]? = some v2 :=
  ⟨fun B m own s Q E b F h1 h2 => by
    obtain ⟨o1, ho1, old, rfl⟩ := F.ow (e, isEn it i) (.head _)
    obtain ⟨o2, ho2, hc2, hd2⟩ := F.ow (it, isLI l i) (.tail _ (.head _))
    have hne : e ≠ it := by
      have nd := F.nd
      simp only [List.map_cons, List.cons_append, List.nil_append, List.nodup_cons, List.mem_cons, not_or] at nd
      exact nd.1.1
    have hl := ((hL.ext b.ext).ext F.frz).list
    by_cases hi : i < vs.length
    · have hx : vs.toArray[i]? = some vs[i] := by simp [hi]
      refine PySem.wpAny_pyNext_enum_item (it := it) ho1 ⟨o2, ho2, hc2, hd2⟩ hl hx hne fun h' he hit ht hz hk => h1 (decide_eq_true hi) _ _ fun Q' E' q' => ?_
      obtain ⟨o3, ho3, hc3, hd3⟩ := hit
      obtain ⟨B', b', hnew, F'⟩ := F.multi (T' := [(e, fun o => o = { cls := .type "enumerate", dict := none, data := .fields #[rawInt s.heap.objs.size, .bool false, .ref it, rawInt ((i : Int) + 1), .none, vs[i]], slots := #[] }), (it, isLI l (i + 1))]) (h' := h') (k := s.toks + 1) (d := s.drawn)
        (fun b o hb e => hk b o (fun q => hb (by simp [q])) (fun q => hb (by simp [q])) e)
        (fun p hp => by
          rcases List.mem_cons.mp hp with rfl | hp
          · exact ⟨_, he, rfl⟩
          · rw [List.mem_singleton.mp hp]; exact ⟨_, ho3, hc3, hd3⟩) (List.Sublist.refl _) (Nat.le_succ _)
      refine PySem.wpAny_letOwnedTupleGo_enum he fun h3 he3 hs3 => ?_
      have F3 : Fm c B' m ((e, isEn it (i + 1)) :: (it, isLI l (i + 1)) :: own) { s with heap := h3, toks := s.toks + 1 } := Fm.step F' hs3 he3 ⟨_, by
        have : ((i : Int) + 1) = ((i + 1 : Nat) : Int) := by omega
        rw [this]⟩ rfl rfl (Nat.le_refl _)
      exact q' _ B' (b'.low F.size) ⟨_, _, _, rfl, hnew _ _ (Nat.le_refl _) ht, ⟨_, rfl⟩, by simp [hi]⟩ F3
    · have hx : vs.toArray[i]? = none := by simp; omega
      refine PySem.wpAny_pyNext_enum_end hh ho1 ⟨o2, ho2, hc2, hd2⟩ hl hx fun h' hk => ?_
      obtain ⟨B', b', _, F'⟩ := F.multi (T' := []) (h' := h') (k := s.toks) (d := s.drawn) (fun b o hb e => hk b o (fun q => hb (by simp [q])) e) (fun p hp => absurd hp List.not_mem_nil) (List.nil_sublist _) (Nat.le_refl _)
      exact h2 (decide_eq_false hi) _ B' (b'.low F.size) F'⟩
theorem enum_self {e it : Addr} {i : Nat} {T : Ow} {s : Shared} {Q : Value → Shared → Prop} {E : Value → Shared → Prop} (F : Fm c B m ((e, isEn it i) :: T) s) (h : Q (.ref e) s) : wpAny (Md c.w) c.A (pyIter (.ref e)) Q E s := by
  obtain ⟨o1, ho1, old, rfl⟩ := F.ow (e, isEn it i) (.head _)
  exact PySem.wpAny_pyIter_enum ho1 h
end
end Mine

end
section
open PySem PySem.W PyProof.Rows
set_option Elab.async false
set_option autoImplicit false
set_option linter.unusedVariables false
set_option maxRecDepth 100000
namespace Mine
/-! comprehensions: the shell, its end by the value or by a store -/
noncomputable def isNsO (o : Obj) : Prop := ∃ (h : Heap) (a : Addr) (m : Str → Option Value), h.get? a = some o ∧ h.Ns a m
theorem isNsO.ns {o : Obj} (x : isNsO o) {h : Heap} {a : Addr} (e : h.get? a = some o) : ∃ m, h.Ns a m := by
  obtain ⟨h0, a0, m, e0, o', es, ep, ho, r⟩ := x
  rw [e0] at ho
  cases ho
  exact ⟨m, o, es, ep, e, r⟩
section
variable {c : Cx} {B : Heap} {m : Lo} {own : Ow}
theorem Fm.outC {s s' : Shared} {scope : Scope} {cl : List (Str × Addr)} {C : Addr} {B' : Heap} {m' : Lo} {oL : Obj} {Y : Ow} (F : Fm c B m own s) (hoL : s.heap.get? c.L = some oL) (F' : Fm (cpx c scope cl C) B' m' ((c.L, fun o => o = oL) :: Y) s') (hY : ∀ p ∈ Y, c.n ≤ p.1 ∨ c.X p.1) :
    Fm c B' m ((C, isNsO) :: Y) s' := by
  obtain ⟨oL', es, ep, hoL2, r⟩ := F.ns
  rw [hoL] at hoL2
  cases hoL2
  have nd := F'.nd
  rw [List.map_cons, List.nodup_cons] at nd
  obtain ⟨o', ho', rfl⟩ := F'.ow _ (.head _)
  obtain ⟨hb1, hb2, hb3⟩ := F'.bown _ (.head _)
  obtain ⟨oC, esC, epC, hoC, rC⟩ := F'.ns
  refine ⟨F.gg, F'.gx, F.gn, F'.keep, F'.size, F'.frz, ⟨o', es, ep, ho', r⟩, fun p hp => ?_, hb1, F.lL, fun p hp => ?_, ?_, F'.gens, F'.os, F'.tk⟩
  · rcases List.mem_cons.mp hp with rfl | hp
    · exact ⟨oC, hoC, s'.heap, C, _, hoC, oC, esC, epC, hoC, rC⟩
    · exact F'.ow p (.tail _ hp)
  · rcases List.mem_cons.mp hp with rfl | hp
    · exact ⟨F'.bL, fun e => hb2 e.symm, .inl F'.lL⟩
    · have q := F'.bown p (.tail _ hp)
      refine ⟨q.1, fun e => nd.1 (List.mem_map.mpr ⟨p, hp, e⟩), hY p hp⟩
  · rw [List.map_cons, List.nodup_cons]
    refine ⟨fun h => ?_, nd.2⟩
    obtain ⟨p, hp, e⟩ := List.mem_map.mp h
    exact (F'.bown p (.tail _ hp)).2.1 e
theorem comp_end_none {E : Value → Shared → Prop} {Q : Value → Shared → Prop} {acc C : Addr} {s' : Shared} {f : Flow} (F : Fm c B m ((C, isNsO) :: own) s') (q : ∀ s'', Fm c B m own s'' → Q (.ref acc) s'') : compPost (Md c.w) c.A E none Q (.ref acc) C (.ok f) s' := by
  obtain ⟨oC, hoC, hN⟩ := F.ow _ (.head _)
  obtain ⟨mC, hns⟩ := hN.ns hoC
  exact ⟨mC, hns, fun h' hs => q _ (F.lose (k := s'.toks) (d := s'.drawn) hs.extBut (Nat.le_refl _))⟩
theorem comp_end_name {E : Value → Shared → Prop} {Q : Value → Shared → Prop} {acc C : Addr} {s' : Shared} {f : Flow} {x : Str} {p : Pos} (F : Fm c B m ((C, isNsO) :: own) s') (hl : c.env.kindOf x = some .local) (hk : c.env.scope.kind = .function)
    (q : ∀ s'', Fm c B (put m x (.ref acc)) own s'' → Q .none s'') : compPost (Md c.w) c.A E (some (assign (.Name x p) c.env)) Q (.ref acc) C (.ok f) s' := by
  show wpAny _ _ (assign (.Name x p) c.env (.ref acc)) _ _ _
  refine wpAny_assign_Name ?_
  refine GV.sto (K := fun _ _ => True) hl hk _ _ E F fun s2 F2 => ?_
  obtain ⟨oC, hoC, hN⟩ := F2.ow _ (.head _)
  obtain ⟨mC, hns⟩ := hN.ns hoC
  exact ⟨mC, hns, fun h' hs => q _ (F2.lose (k := s2.toks) (d := s2.drawn) hs.extBut (Nat.le_refl _))⟩
/-- the shell: source, accumulator, frame; the loop; the end -/
theorem comp_shell {e iter : Expr} {g : Comprehension} {gs : List Comprehension} {newAcc : Sem Value} {pos : Pos} {scope : Scope} {cl : List (Str × Addr)} {P0 : Obj → Prop} {P : List Value → Obj → Prop} {R0 : Heap → Value → Prop} {T : Heap → List Value → Prop} {use : Option (Value → Sem Unit)}
    (hcl : clausesOf e = g :: gs) (hg : g.iter = iter) (hh : c.A.handled = none) (he : EV c B m own iter R0)
    (hacc : ∀ B own s (Q : Value → Shared → Prop) E, Fm c B m own s → (∀ a s' B', Bs c.n B B' → B.get? a = none → c.n ≤ a → Fm c B' m ((a, P0) :: own) s' → Q (.ref a) s') → wpAny (Md c.w) c.A newAcc Q E s)
    (hi : ∀ B1 v, Bs c.n B B1 → R0 B1 v → ∃ a vs, v = .ref a ∧ Src B1 a vs ∧ ∀ C B5 it acc Y s6 R St, Bs c.n B1 B5 → Fm (cpx c scope cl C) B5 [] ((it, St 0) :: (acc, P0) :: Y) s6 →
      (∀ (c' : Cx) B', c'.A = c.A → Ext B1 B' → ∀ it i x p, NX c' B' it St i (decide (i < vs.length)) (.Name x p) fun _ v => vs[i]? = some v) →
      (∀ (s : Shared) it i (Q : Value → Shared → Prop) E o, s.heap.get? it = some o → St i o → Q (.ref it) s → wpAny (Md c.w) c.A (pyIter (.ref it)) Q E s) →
      (∀ s' B' m' ys, Bs c.n B5 B' → Fm (cpx c scope cl C) B' m' ((acc, P ys) :: Y) s' → T B' ys → R (.ok .next) s') →
      codeAny (Md c.w) c.A (.compStart e 0 (.ref it) (.ref acc) (compEnvC scope cl C c.env)) R s6)
    (hclos : closureFor scope c.env = Pure.pure cl) (hcell : ∀ y ∈ scope.names, y.2 ≠ .cell) (hkind : scope.kind = .function) (hnames : ∀ y ∈ scope.names, y.2 = .local → scope.names.lookup y.1 = some .local)
    (hs : ∀ y, foldedSetIterable iter c.env y = Pure.pure y) :
    ∀ s (Q : Value → Shared → Prop) E, Fm c B m own s → (∀ acc ys s' B' C, Bs c.n B B' → B.get? acc = none → c.n ≤ acc → Fm c B' m ((C, isNsO) :: (acc, P ys) :: own) s' → T B' ys → compPost (Md c.w) c.A E use Q (.ref acc) C (.ok .next) s') →
      wpAny (Md c.w) c.A (comprehension e scope c.env pos newAcc false (eval iter c.env) use) Q E s := fun s Q E F q => by
  refine wpAny_comprehension_free (g := g) (gs := gs) hcl (by rw [hg]; exact hs) hclos hkind hnames ((he.run B (Bs.refl _ _)).run s _ E F fun v s1 B1 b1 F1 r1 => ?_)
  obtain ⟨a, vs, rfl, hsrc, loop⟩ := hi B1 v b1 r1
  obtain ⟨St, hiter, hnx, hself⟩ := hsrc.iter (c := c) (m := m) (own := own) hh
  refine hiter s1 _ E F1 fun o0 hS0 hfr0 => ?_
  have g1 : Grow s1 { s1 with heap := s1.heap.push o0 } := ⟨fun b o e => Heap.get?_push_of_some _ e, by simp, rfl, rfl⟩
  obtain ⟨b2, F2⟩ := F1.grow g1 F1.tk
  have b2' := b2.low F1.size
  have F3 := F2.take (P := St 0) b2' F1.fresh (grown_new (Heap.get?_push_size _ hfr0) (Nat.le_refl _)) hS0
  have b3 := less_bs b2' F1.fresh
  generalize less (grown B1 s1 { s1 with heap := s1.heap.push o0 }) s1.heap.objs.size = B3 at F3 b3
  generalize s1.heap.objs.size = it at F3
  refine hacc B3 _ _ _ E F3 fun acc s4 B5 b5 hna hnn F5 => ?_
  refine wpAny_newFunctionEnv hcell (fun y hy => absurd hy List.not_mem_nil) (fun h' hns hsb => ?_) hkind
  have hk5 : ∀ b o, s4.heap.get? b = some o → h'.get? b = some o := fun b o e => hsb.extBut b o (Nat.ne_of_lt (Heap.lt_size e)) (Heap.get?_push_of_some _ e)
  have hns' : h'.Ns s4.heap.objs.size (fun _ => none) := hns
  obtain ⟨oL, hoL, F6⟩ := F5.inComp (scope := scope) (cl := cl) (k := s4.toks) (Nat.le_refl _) hns' hk5 (Nat.le_refl _)
  have F6 := F6.perm (own' := (it, St 0) :: (acc, P0) :: (c.L, fun o => o = oL) :: own) (by
    refine List.Perm.trans (List.Perm.cons _ (List.Perm.swap ..)) ?_
    refine List.Perm.trans (List.Perm.swap ..) ?_
    exact List.Perm.cons _ (List.Perm.swap ..))
  generalize hC : s4.heap.objs.size = C at F6 hns'
  have bb := b3.trans b5
  subst hC
  refine loop _ B5 it acc ((c.L, fun o => o = oL) :: own) _ _ St bb F6 hnx hself fun s' B' m' ys b' F' hT => ?_
  have F7 := F'.perm (List.Perm.swap (c.L, fun o => o = oL) (acc, P ys) own)
  have F8 := F5.drop.drop.outC hoL F7 fun p hp => by
    rcases List.mem_cons.mp hp with rfl | hp
    · exact .inl hnn
    · exact (F.bown p hp).2.2
  exact q acc ys s' B' _ (b1.trans (bb.trans b')) (bs_none (b1.trans b3) hna) hnn F8 hT
theorem newList_acc {B : Heap} {own : Ow} : ∀ (s : Shared) (Q : Value → Shared → Prop) (E : Value → Shared → Prop), Fm c B m own s → (∀ a s' B', Bs c.n B B' → B.get? a = none → c.n ≤ a → Fm c B' m ((a, isL []) :: own) s' → Q (.ref a) s') → wpAny (Md c.w) c.A (newList []) Q E s := fun s Q E F q => by
  refine wpAny_newObj_type ?_ (sizeOk_list (vs := []) (Nat.zero_le _))
  have g2 : Grow s { s with heap := s.heap.push { cls := .type "list", data := .seq ([] : List Value).toArray } } := ⟨fun b o e => Heap.get?_push_of_some _ e, by simp, rfl, rfl⟩
  obtain ⟨b4, F4⟩ := F.grow g2 F.tk
  have b4' := b4.low F.size
  have F5 := F4.take (P := isL []) b4' F.fresh (grown_new (Heap.get?_push_size _ rfl) (Nat.le_refl _)) ⟨0, rfl⟩
  exact q _ _ _ (less_bs b4' F.fresh) F.fresh F.size F5
/-- one generator -/
theorem comp_loop1 {elt iter : Expr} {x : Str} {px pos : Pos} {ifs : List Expr} {scope : Scope} {cl : List (Str × Addr)} {B1 B5 : Heap} {vs : List Value} {C it acc : Addr} {Y : Ow} {s6 : Shared} {R : Result → Shared → Prop} {St : Nat → Obj → Prop} {T : Heap → List Value → Prop}
    (hz : vs.length ≤ sizeLine) (J : Nat → Heap → List Value → Prop) (hJ0 : ∀ B2, Bs c.n B1 B2 → J 0 B2 [])
    (turn : ∀ i u Bi B2 m0 own' ys, vs[i]? = some u → Bs c.n B1 Bi → Bs c.n Bi B2 → J i Bi ys → ∃ p, TS (cpx c scope cl C) B2 (put m0 x u) own' ifs p ∧ (p = false → ∀ B3, Bs c.n B2 B3 → J (i + 1) B3 ys) ∧
        (p = true → ∀ B3, Bs c.n B2 B3 → EV (cpx c scope cl C) B3 (put m0 x u) own' elt fun B4 y => J (i + 1) B4 (ys ++ [y])))
    (fin : ∀ B2 B3 ys, Bs c.n B1 B2 → J vs.length B2 ys → Bs c.n B2 B3 → T B3 ys) (hkind : scope.kind = .function) (hx : scope.names.lookup x = some .local)
    (bb : Bs c.n B1 B5) (F6 : Fm (cpx c scope cl C) B5 [] ((it, St 0) :: (acc, isL []) :: Y) s6)
    (hnx : ∀ (c' : Cx) B', c'.A = c.A → Ext B1 B' → ∀ it i x p, NX c' B' it St i (decide (i < vs.length)) (.Name x p) fun _ v => vs[i]? = some v)
    (hself : ∀ (s : Shared) it i (Q : Value → Shared → Prop) E o, s.heap.get? it = some o → St i o → Q (.ref it) s → wpAny (Md c.w) c.A (pyIter (.ref it)) Q E s)
    (hR : ∀ s' B' m' ys, Bs c.n B5 B' → Fm (cpx c scope cl C) B' m' ((acc, isL ys) :: Y) s' → T B' ys → R (.ok .next) s') :
    codeAny (Md c.w) c.A (.compStart (.ListComp elt [⟨.Name x px, iter, ifs, 0⟩] scope pos) 0 (.ref it) (.ref acc) (compEnvC scope cl C c.env)) R s6 := by
  have loop : codeAny (Md c.w) c.A (.compLoop (.ListComp elt [⟨.Name x px, iter, ifs, 0⟩] scope pos) 0 (.ref it) (.ref acc) (compEnvC scope cl C c.env)) R s6 := by
    refine codeAny_compLoop_tests (fun n s => ∃ i Bi m1 ys, n + i = vs.length ∧ Bs c.n B1 Bi ∧ Bs c.n B5 Bi ∧ Fm (cpx c scope cl C) Bi m1 ((it, St i) :: (acc, isL ys) :: Y) s ∧ J i Bi ys ∧ ys.length ≤ i) (fun n s hI => ?_) vs.length ⟨0, B5, [], [], rfl, bb, Bs.refl _ _, F6, hJ0 _ bb, Nat.le_refl _⟩ fun _ => rfl
    obtain ⟨i, Bi, mi, ys, hni, bi, bi5, Fi, hJi, hyl⟩ := hI
    refine (hnx (cpx c scope cl C) Bi rfl bi.ext it i x px).run Bi mi _ s _ _ (Bs.refl _ _) Fi (fun hm v s' hlet => ?_) (fun hm s' F' => ?_)
    · have hlt : i < vs.length := of_decide_eq_true hm
      show wpAny _ _ _ _ _ _
      have key := wpAny_bind (f := fun _ => assign (.Name x px) (compEnvC scope cl C c.env) v) (hlet _ _ fun s'' B'' b'' hV F'' => (TG.name (c := cpx c scope cl C) (x := x) (p := px) (V := fun _ v => vs[i]? = some v) (lookup_relabel_local hx) hkind).run B'' mi _ v s'' (fun _ s₂ =>
        wpAny (Md c.w) c.A (forIn ifs true fun t r => if r = true then do let ok ← isTrue t (compEnvC scope cl C c.env) (eval t (compEnvC scope cl C c.env)); Pure.pure (ForInStep.yield ok) else Pure.pure (ForInStep.yield r)) (fun ok s₃ =>
          if ok = true then wpAny (Md c.w) c.A (eval elt (compEnvC scope cl C c.env)) (fun y s₄ =>
            wpAny (Md c.w) c.A (call (.builtin "list.append") [.ref acc, y]) (fun _ s₅ => ∃ k, k < n ∧ ∃ i Bi m1 ys, k + i = vs.length ∧ Bs c.n B1 Bi ∧ Bs c.n B5 Bi ∧ Fm (cpx c scope cl C) Bi m1 ((it, St i) :: (acc, isL ys) :: Y) s₅ ∧ J i Bi ys ∧ ys.length ≤ i) (notedBy (Md c.w) c.A (compEnvC scope cl C c.env) fun e s' => R (.error e) s') s₄) (notedBy (Md c.w) c.A (compEnvC scope cl C c.env) fun e s' => R (.error e) s') s₃
          else ∃ k, k < n ∧ ∃ i Bi m1 ys, k + i = vs.length ∧ Bs c.n B1 Bi ∧ Bs c.n B5 Bi ∧ Fm (cpx c scope cl C) Bi m1 ((it, St i) :: (acc, isL ys) :: Y) s₃ ∧ J i Bi ys ∧ ys.length ≤ i) (notedBy (Md c.w) c.A (compEnvC scope cl C c.env) fun e s' => R (.error e) s') s₂)
        (notedBy (Md c.w) c.A (compEnvC scope cl C c.env) fun e s' => R (.error e) s') hV F'' fun s3 B3 m3 b3 hU F3 => ?_)
      · rw [letOwned_name, pure_bind] at key
        exact key
      · obtain ⟨u, hu, rfl⟩ := hU
        have bc : Bs c.n Bi B3 := b''.trans b3
        obtain ⟨p, hts, hp0, hp1⟩ := turn i u Bi B3 mi ((it, St (i + 1)) :: (acc, isL ys) :: Y) ys hu bi bc hJi
        refine (hts.run B3 (Bs.refl _ _)).run s3 _ _ F3 fun ok s4 B4 b4 F4 r4 => ?_
        subst r4
        cases ok with
        | false =>
          rw [if_neg (by decide)]
          exact ⟨n - 1, by omega, i + 1, B4, _, ys, by omega, bi.trans (bc.trans b4), bi5.trans (bc.trans b4), F4, hp0 rfl B4 b4, by omega⟩
        | true =>
          rw [if_pos rfl]
          refine ((hp1 rfl B4 b4).run B4 (Bs.refl _ _)).run s4 _ _ F4 fun y s5 B6 b6 F6 r6 => ?_
          refine (gx_append (c := cpx c scope cl C) (pre := [(it, St (i + 1))]) (post := Y) (by omega)).run s5 _ _ F6 fun _ s7 B7 own7 b7 F7 r7 => ?_
          obtain ⟨rfl, rfl, _⟩ := r7
          have b8 := bc.trans (b4.trans b6)
          exact ⟨n - 1, by omega, i + 1, B7, _, ys ++ [y], by omega, bi.trans b8, bi5.trans b8, F7, r6, by simp; omega⟩
    · have hlt : ¬ i < vs.length := of_decide_eq_false hm
      have : i = vs.length := by omega
      subst this
      exact hR _ _ _ _ bi5 F' (fin _ _ _ bi hJi (Bs.refl _ _))
  exact codeAny_compStart_list loop (by
    obtain ⟨o6, ho6, hS6⟩ := F6.ow _ (.head _)
    exact hself _ it 0 _ _ o6 ho6 hS6 loop)
/-- a list comprehension stored under a local name -/
theorem XW.assignComp {K : Flow → Heap → Lo → Ow → Prop} {rest : List Stmt} {elt iter : Expr} {x y : Str} {px py pos spos : Pos} {ifs : List Expr} {scope : Scope} {cl : List (Str × Addr)} {R0 : Heap → Value → Prop} {T : Heap → List Value → Prop} (hh : c.A.handled = none) (he : EV c B m own iter R0)
    (hi : ∀ B1 v, Bs c.n B B1 → R0 B1 v → ∃ a vs, v = .ref a ∧ Src B1 a vs ∧ vs.length ≤ sizeLine ∧ ∃ J : Nat → Heap → List Value → Prop, (∀ B2, Bs c.n B1 B2 → J 0 B2 []) ∧
      (∀ i u C Bi B2 m0 own' ys, vs[i]? = some u → Bs c.n B1 Bi → Bs c.n Bi B2 → J i Bi ys → ∃ p, TS (cpx c scope cl C) B2 (put m0 x u) own' ifs p ∧ (p = false → ∀ B3, Bs c.n B2 B3 → J (i + 1) B3 ys) ∧
        (p = true → ∀ B3, Bs c.n B2 B3 → EV (cpx c scope cl C) B3 (put m0 x u) own' elt fun B4 y => J (i + 1) B4 (ys ++ [y]))) ∧ ∀ B2 B3 ys, Bs c.n B1 B2 → J vs.length B2 ys → Bs c.n B2 B3 → T B3 ys)
    (k : ∀ a ys B2, c.n ≤ a → Bs c.n B B2 → B.get? a = none → T B2 ys → XW c B2 (put m y (.ref a)) ((a, isL ys) :: own) (execs rest c.env) K)
    (hclos : closureFor scope c.env = Pure.pure cl) (hcell : ∀ y ∈ scope.names, y.2 ≠ .cell) (hkind : scope.kind = .function) (hnames : ∀ y ∈ scope.names, y.2 = .local → scope.names.lookup y.1 = some .local) (hx : scope.names.lookup x = some .local)
    (hs : ∀ y, foldedSetIterable iter c.env y = Pure.pure y) (hl : c.env.kindOf y = some .local) (hk : c.env.scope.kind = .function)
    (hsw : swapsWith (.ListComp elt [⟨.Name x px, iter, ifs, 0⟩] scope pos) (some (.Name y py)) spos.line c.env = Pure.pure true) :
    XW c B m own (execs (.Assign [.Name y py] (.ListComp elt [⟨.Name x px, iter, ifs, 0⟩] scope pos) spos :: rest) c.env) K :=
  XW.cons ⟨fun s Q E F q => by
    rw [exec_Assign_Name_used _ _ _ _ hsw]
    refine wpAny_bind (wpAny_standAt (wpAny_bind ?_))
    show wpAny _ c.A (do let _ ← comprehension (.ListComp elt [⟨.Name x px, iter, ifs, 0⟩] scope pos) scope c.env _ (newList []) false (eval iter c.env) (some (PySem.assign (.Name y py) c.env))) _ _ s
    refine wpAny_bind (comp_shell (iter := iter) (g := ⟨.Name x px, iter, ifs, 0⟩) (gs := []) (P := isL) (P0 := isL []) (T := T) rfl rfl hh he (fun B own s Q E F q => newList_acc s Q E F q) (fun B1 v b1 r1 => ?_) hclos hcell hkind hnames hs s _ E F fun acc ys s' B' C b' hna hnn F' hT => ?_)
    · obtain ⟨a, vs, rfl, hsrc, hz, J, hJ0, turn, fin⟩ := hi B1 v b1 r1
      exact ⟨a, vs, rfl, hsrc, fun C B5 it acc Y s6 R St bb F6 hnx hself hR => comp_loop1 hz J hJ0 (fun i u Bi B2 m0 own' ys => turn i u C Bi B2 m0 own' ys) fin hkind hx bb F6 hnx hself hR⟩
    · refine comp_end_name F' hl hk fun s'' F2 => ?_
      exact wpAny_pure (wpAny_pure (q .next s'' B' _ _ b' F2 (k acc ys B' hnn b' hna hT)))⟩
theorem EV.listComp {elt iter : Expr} {x : Str} {px pos : Pos} {ifs : List Expr} {scope : Scope} {cl : List (Str × Addr)} {R0 : Heap → Value → Prop} {T : Heap → List Value → Prop} (hh : c.A.handled = none) (he : EV c B m own iter R0)
    (hi : ∀ B1 v, Bs c.n B B1 → R0 B1 v → ∃ a vs, v = .ref a ∧ Src B1 a vs ∧ vs.length ≤ sizeLine ∧ ∃ J : Nat → Heap → List Value → Prop, (∀ B2, Bs c.n B1 B2 → J 0 B2 []) ∧
      (∀ i u C Bi B2 m0 own' ys, vs[i]? = some u → Bs c.n B1 Bi → Bs c.n Bi B2 → J i Bi ys → ∃ p, TS (cpx c scope cl C) B2 (put m0 x u) own' ifs p ∧ (p = false → ∀ B3, Bs c.n B2 B3 → J (i + 1) B3 ys) ∧
        (p = true → ∀ B3, Bs c.n B2 B3 → EV (cpx c scope cl C) B3 (put m0 x u) own' elt fun B4 y => J (i + 1) B4 (ys ++ [y]))) ∧ ∀ B2 ys, Bs c.n B1 B2 → J vs.length B2 ys → T B2 ys)
    (hT : ∀ B1 B2 ys, Ext B1 B2 → T B1 ys → T B2 ys)
    (hclos : closureFor scope c.env = Pure.pure cl) (hcell : ∀ y ∈ scope.names, y.2 ≠ .cell) (hkind : scope.kind = .function) (hnames : ∀ y ∈ scope.names, y.2 = .local → scope.names.lookup y.1 = some .local) (hx : scope.names.lookup x = some .local)
    (hs : ∀ y, foldedSetIterable iter c.env y = Pure.pure y) : EV c B m own (.ListComp elt [⟨.Name x px, iter, ifs, 0⟩] scope pos) fun B' v => ∃ a ys, v = .ref a ∧ B.get? a = none ∧ Ls B' a ys ∧ T B' ys :=
  ⟨fun B0 b0 => ⟨fun s Q E F q => by
    rw [eval_ListComp]
    show wpAny _ c.A (comprehension (.ListComp elt [⟨.Name x px, iter, ifs, 0⟩] scope pos) scope c.env _ (newList []) false (eval iter c.env) none) _ _ s
    refine comp_shell (iter := iter) (g := ⟨.Name x px, iter, ifs, 0⟩) (gs := []) (P := isL) (P0 := isL []) (T := T) rfl rfl hh (he.bs b0) (fun B own s Q E F q => newList_acc s Q E F q) (fun B1 v b1 r1 => ?_) hclos hcell hkind hnames hs s _ E F fun acc ys s' B' C b' hna hnn F' hT' => ?_
    · obtain ⟨a, vs, rfl, hsrc, hz, J, hJ0, turn, fin⟩ := hi B1 v (b0.trans b1) r1
      exact ⟨a, vs, rfl, hsrc, fun C B5 it acc Y s6 R St bb F6 hnx hself hR => comp_loop1 hz J hJ0 (fun i u Bi B2 m0 own' ys => turn i u C Bi B2 m0 own' ys) (fun B2 B3 ys b2 hj b3 => hT B2 B3 ys b3.ext (fin B2 ys b2 hj)) hkind hx bb F6 hnx hself hR⟩
    · refine comp_end_none F' fun s'' F2 => ?_
      obtain ⟨B7, b7, hls, F7⟩ := F2.give hnn
      exact q _ s'' B7 (b'.trans b7) F7 ⟨acc, ys, rfl, bs_none b0 hna, hls, hT _ _ _ b7.ext hT'⟩⟩⟩
end
end Mine

end
section
open PySem PySem.W PyProof.Rows
set_option Elab.async false
set_option autoImplicit false
set_option linter.unusedVariables false
set_option maxRecDepth 100000
namespace Mine
/-! the set of one True -/
noncomputable def byText (w : World) : Bool := w.params.followText "set-order"
noncomputable def tab1 (led : Bool) : SetTable := { mask := 7, place := #[1], dummies := #[], finger := 0, led := led, moves := 0, plain := true }
noncomputable def isSet0 (w : World) (o : Obj) : Prop := o = { cls := .type "set", dict := none, data := .set #[] 0 (.fresh 0 0 (!byText w)) }
noncomputable def isSet1 (w : World) (o : Obj) : Prop := o = { cls := .type "set", dict := none, data := .set #[(1, .bool true)] 1 (tab1 (!byText w)) }
noncomputable def isSetN (w : World) (vs : List Value) (o : Obj) : Prop := (vs = [] ∧ isSet0 w o) ∨ (vs ≠ [] ∧ isSet1 w o)
theorem layNew_true (led : Bool) : layNew (.fresh 0 0 led) #[] 1 (.bool true) = (#[(1, .bool true)], tab1 led, false, false) := by
  cases led <;> kernel_rfl
section
variable {prog : Program} {w : World} {A : Around} {E : Value → Shared → Prop} {s : Shared}
theorem hash_true {Q : Int → Shared → Prop} (h : Q 1 { s with toks := s.toks + 1 }) : wpAny (model prog w) A (pyHash (.bool true)) Q E s := by
  have hT : s.TypeIs (.bool true) "bool" := rfl
  unfold pyHash
  have hv : [Value.bool true].any Value.onHeap = false := rfl
  refine wpAny_bind ?_
  rw [cRoomFor, if_neg (by rw [hv]; exact Bool.false_ne_true)]; refine wpAny_pure ?_
  refine wpAny_bind (wpAny_specialOf hT PySem.F.slot_bool_hash.lookup ?_)
  show wpAny _ _ (if (some (Value.builtin "int.__hash__") == some Value.none) = true then _ else _) Q E s
  rw [if_neg (by rw [beq_builtin_none]; exact Bool.false_ne_true)]
  refine wpAny_bind (wpAny_specialOf hT PySem.F.slot_bool_hash.lookup ?_)
  show wpAny _ _ (callSpecialIfBoundUnlessNone? (.bool true) "__hash__" _ >>= _) Q E s
  refine wpAny_bind (wpAny_callSpecialIfBoundUnlessNone?_slot hT PySem.F.slot_bool_hash
    (wpAny_call_entry PySem.F.slot_bool_hash hT entry_int_hash
      (show wpAny _ _ (do ret (← mkInt (rawHash 1))) _ _ s from wpAny_ret_mkInt ?_) (args_int_hash _)))
  have hr : rawHash 1 = 1 := by decide +kernel
  rw [hr]
  show wpAny _ _ (if (decide (-(2 : Int) ^ 63 ≤ 1) && decide ((1 : Int) < 2 ^ 63)) = true then _ else _) Q E _
  rw [if_pos (by decide +kernel)]
  exact wpAny_pure h
theorem eq_true {Q : Bool → Shared → Prop} (h : Q true s) : wpAny (model prog w) A (eqBool (.bool true) (.bool true)) Q E s := by
  unfold eqBool
  refine wpAny_holding ?_
  rw [if_pos (by decide +kernel)]
  exact wpAny_bind (wpAny_rule (wpAny_pure h))
theorem setAdd0 {a : Addr} {Q : Value → Shared → Prop} (ho : ∃ o, s.heap.get? a = some o ∧ isSet0 w o)
    (h : ∀ h' k, Heap.SameBut a s.heap h' → (∃ o, h'.get? a = some o ∧ isSet1 w o) → s.toks ≤ k → Q .none { s with heap := h', toks := k }) : wpAny (model prog w) A (call (.builtin "set.add") [.ref a, .bool true]) Q E s := by
  obtain ⟨o, ho, rfl⟩ := ho
  have hT : s.TypeIs (.ref a) "set" := ⟨_, ho, rfl⟩
  refine wpAny_call_entry F.slot_set_add hT F.entry_set_add ?_ (F.args_set_add_2 _ _)
  unfold Builtin.«set.add» Builtin.Frozenset.oneOther
  simp only [List.isEmpty_nil, bind_assoc]
  unfold Builtin.Frozenset.addrOf setAdd
  refine wpAny_bind (wpAny_pure ?_)
  try dsimp only
  refine wpAny_bind (wpAny_pure ?_)
  try dsimp only
  refine wpAny_bind ?_
  refine wpAny_holding ?_
  refine wpAny_bind (hash_true ?_)
  unfold setAddHashed setAddHashedIn
  refine wpAny_holding (wpAny_bind (wpAny_setState_of (s := { s with toks := s.toks + 1 }) ho rfl (by rfl) ?_))
  dsimp only
  rw [show byScan (.bool true) (#[] : Array (Int × Value)) = true from by simp [byScan, Value.scannable, scanBound]]
  simp only [↓reduceIte]
  unfold setAddByScan
  refine wpAny_bind ?_
  refine wpAny_bind (wpAny_rule ?_)
  refine wpAny_bind (wpAny_pure (a := ScanMet.absent) ?_)
  dsimp only
  rw [layNew_true]
  dsimp only
  refine wpAny_bind (wpAny_pure ?_)
  refine wpAny_bind ?_
  rw [hashByValue_scannable 8 (by rfl)]
  refine wpAny_pure ?_
  rw [if_pos (show plainKind (.bool true) = true from rfl)]
  refine wpAny_bind (wpAny_storeSet_of (s := { s with toks := s.toks + 1 }) ho rfl ?_)
  rw [if_neg (by rw [show (tab1 (!byText w)).tooFull = false by cases byText w <;> rfl]; simp)]
  refine wpAny_pure (wpAny_pure ?_)
  show wpAny _ _ (ret Value.none) _ _ _
  exact wpAny_pure ⟨_, rfl, h _ _ (Heap.SameBut.update ..) ⟨_, Heap.get?_update_self _ ho rfl, rfl⟩ (Nat.le_succ _)⟩
theorem setAdd1 {a : Addr} {Q : Value → Shared → Prop} (ho : ∃ o, s.heap.get? a = some o ∧ isSet1 w o)
    (h : ∀ k, s.toks ≤ k → Q .none { s with toks := k }) : wpAny (model prog w) A (call (.builtin "set.add") [.ref a, .bool true]) Q E s := by
  obtain ⟨o, ho, rfl⟩ := ho
  have hT : s.TypeIs (.ref a) "set" := ⟨_, ho, rfl⟩
  refine wpAny_call_entry F.slot_set_add hT F.entry_set_add ?_ (F.args_set_add_2 _ _)
  unfold Builtin.«set.add» Builtin.Frozenset.oneOther
  simp only [List.isEmpty_nil, bind_assoc]
  unfold Builtin.Frozenset.addrOf setAdd
  refine wpAny_bind (wpAny_pure ?_)
  try dsimp only
  refine wpAny_bind (wpAny_pure ?_)
  try dsimp only
  refine wpAny_bind ?_
  refine wpAny_holding ?_
  refine wpAny_bind (hash_true ?_)
  unfold setAddHashed setAddHashedIn
  refine wpAny_holding (wpAny_bind (wpAny_setState_of (s := { s with toks := s.toks + 1 }) ho rfl (by cases byText w <;> rfl) ?_))
  dsimp only
  rw [show byScan (.bool true) (#[(1, .bool true)] : Array (Int × Value)) = true from by simp [byScan, Value.scannable, scanBound]]
  simp only [↓reduceIte]
  unfold setAddByScan
  refine wpAny_bind ?_
  refine wpAny_bind (wpAny_rule ?_)
  refine wpAny_bind ?_
  show wpAny _ _ (setScanFrom a (.bool true) 1 true [(1, .bool true)] 0) _ _ _
  unfold setScanFrom
  rw [if_pos (by rfl)]
  refine wpAny_bind (wpAny_setEpoch_of (s := { s with toks := s.toks + 1 }) ho rfl (by cases byText w <;> rfl) ?_)
  refine wpAny_bind (eq_true ?_)
  rw [if_pos (by rfl)]
  refine wpAny_pure ?_
  dsimp only
  refine wpAny_pure (wpAny_pure ?_)
  show wpAny _ _ (ret Value.none) _ _ _
  exact wpAny_pure ⟨_, rfl, h _ (Nat.le_succ _)⟩
end
end Mine

end
section
open PySem PySem.W PyProof.Rows
set_option Elab.async false
set_option autoImplicit false
set_option linter.unusedVariables false
set_option maxRecDepth 100000
namespace Mine
theorem entry_set_iter : entryFor table "set.__iter__" = some Builtin.«frozenset.__iter__» :=
  entryFor_alias (id' := "frozenset.__iter__") (by kernel_rfl) rfl (by decide +kernel) (by kernel_rfl)
theorem slot_seti_next : Slot "set_iterator" "__next__" "set_iterator.__next__" :=
  .of (owner := "set_iterator") (n := "__next__") (by rw [typeLookup_type, builtinLookup_eq_fast]; kernel_rfl) (by decide +kernel) (by decide +kernel) (by decide +kernel)
    (by first | exact .inl (by decide +kernel) | exact .inr (by decide +kernel)) (by rw [isSubtype_type]; kernel_rfl)
theorem entry_seti_next : entryFor table "set_iterator.__next__" = some Builtin.«set_iterator.__next__» := entryFor_of_tree (by kernel_rfl)
theorem args_seti_next (a : Value) : argsOk "set_iterator.__next__" ⟨[a], []⟩ := by unfold argsOk; kernel_rfl
noncomputable def setIt (a : Addr) (slot i : Nat) : Obj := { cls := .type "set_iterator", dict := none, data := .fields #[rawInt slot, rawInt i, .ref a, rawInt 1, rawInt 1], slots := #[] }
/-- how far the iterator's slot has come -/
noncomputable def slotAfter (w : World) : Nat := if byText w then 0 else 2
theorem pick_one (f : Nat → Nat) (x : Int × Value) : pickOrder f #[x] = #[x] := by
  show pickOrder.go f 1 0 [x] #[] = #[x]
  unfold pickOrder.go
  have : f 0 % [x].length = 0 := Nat.mod_one _
  rw [this]
  rfl
section
variable {prog : Program} {w : World} {A : Around} {E : Value → Shared → Prop} {s : Shared}
theorem fits1 (led : Bool) : (tab1 led).fits 1 = true := by cases led <;> rfl
theorem byText_ask {α : Type} {f : Bool → Sem α} {Q : α → Shared → Prop} (h : wpAny (model prog w) A (f (byText w)) Q E s) : wpAny (model prog w) A (setsByText >>= f) Q E s := by
  unfold setsByText
  exact wpAny_bind (wpAny_bind (wpAny_askSetting (wpAny_pure h)))
theorem setIter {a : Addr} {Q : Value → Shared → Prop} (ho : ∃ o, s.heap.get? a = some o ∧ isSet1 w o)
    (h : Q (.ref s.heap.objs.size) { s with heap := s.heap.push (setIt a 0 0) }) : wpAny (model prog w) A (pyIter (.ref a)) Q E s := by
  obtain ⟨o, ho, rfl⟩ := ho
  have hT : s.TypeIs (.ref a) "set" := ⟨_, ho, rfl⟩
  refine wpAny_pyIter_slot hT F.slot_set_iter (wpAny_call_entry F.slot_set_iter hT entry_set_iter ?_ (F.args_set_iter_1 _))
  unfold Builtin.«frozenset.__iter__» Builtin.Frozenset.slot0 Builtin.Frozenset.addrOf Builtin.Frozenset.sizeOf setEntries
  refine wpAny_bind (wpAny_pure ?_)
  refine wpAny_bind (wpAny_bind (wpAny_bind (wpAny_setState_of ho rfl (fits1 _) (wpAny_pure (wpAny_pure ?_)))))
  unfold setDrawn
  refine wpAny_bind (wpAny_bind (wpAny_setState_of ho rfl (fits1 _) ?_))
  dsimp only
  refine byText_ask (wpAny_pure ?_)
  refine wpAny_ite_false (by cases byText w <;> rfl) ?_
  refine wpAny_bind (wpAny_pure ?_)
  unfold setEpoch
  refine wpAny_bind (wpAny_bind (wpAny_setState_of ho rfl (fits1 _) (wpAny_pure ?_)))
  unfold newFields
  refine wpAny_bind ?_
  refine wpAny_newObj_type ?_
  refine wpAny_pure ⟨_, rfl, "set_iterator", _, ⟨_, Heap.get?_push_size _ rfl, rfl⟩, slot_seti_next.lookup, h⟩
theorem walk1 {a : Addr} {Q : Array (Int × Value) → Shared → Prop} (hb : byText w = true) (ho : ∃ o, s.heap.get? a = some o ∧ isSet1 w o) (h : Q #[(1, .bool true)] s) : wpAny (model prog w) A (setWalk a) Q E s := by
  obtain ⟨o, ho, rfl⟩ := ho
  unfold setWalk
  refine wpAny_bind (wpAny_setState_of ho rfl (fits1 _) ?_)
  dsimp only
  refine byText_ask ?_
  rw [if_pos hb]
  refine wpAny_bind (wpAny_askSetting (wpAny_pure ?_))
  rw [pick_one]
  exact h
theorem setNextA {a : Addr} {slot i : Nat} {Q : Option (Value × Nat) → Shared → Prop} (ho : ∃ o, s.heap.get? a = some o ∧ isSet1 w o) (hsl : (slot = 0 ∧ i = 0) ∨ (slot = slotAfter w ∧ i = 1))
    (h : Q (if i = 0 then some (.bool true, slotAfter w) else none) s) : wpAny (model prog w) A (setNext a slot i 1) Q E s := by
  unfold setNext
  have ho' := ho
  obtain ⟨o, ho, rfl⟩ := ho
  refine wpAny_bind (wpAny_setState_of ho rfl (fits1 _) ?_)
  dsimp only
  refine byText_ask ?_
  cases hb : byText w with
  | true =>
    have hsl0 : slot = 0 := by rcases hsl with h | h
                               · exact h.1
                               · rw [h.1]; simp [slotAfter, hb]
    subst hsl0
    rw [if_pos rfl]
    simp only [bne_self_eq_false, Bool.false_eq_true, if_false]
    refine wpAny_bind (walk1 hb ho' (wpAny_pure ?_))
    rcases hsl with ⟨_, rfl⟩ | ⟨_, rfl⟩
    · simpa [slotAfter, hb] using h
    · simpa using h
  | false =>
    rw [if_neg (by simp)]
    refine wpAny_ite_false (by rfl) ?_
    refine wpAny_bind (wpAny_ite_false (c := (!(tab1 (!false)).led && !#[((1 : Int), Value.bool true)].isEmpty) = true) (by rfl) ?_)
    refine wpAny_pure (wpAny_pure ?_)
    have h2 : slotAfter w = 2 := by simp [slotAfter, hb]
    rw [h2] at h hsl
    rcases hsl with ⟨rfl, rfl⟩ | ⟨rfl, rfl⟩
    · exact h
    · exact h
theorem setNext0 {a it : Addr} {Q : Option Value → Shared → Prop} (ho : ∃ o, s.heap.get? a = some o ∧ isSet1 w o) (hne : a ≠ it) (hi : s.heap.get? it = some (setIt a 0 0))
    (h : ∀ h', Heap.SameBut it s.heap h' → h'.get? it = some (setIt a (slotAfter w) 1) → Q (some (.bool true)) { s with heap := h' }) : wpAny (model prog w) A (pyNext (.ref it)) Q E s := by
  have ho' := ho
  obtain ⟨o, ho, rfl⟩ := ho
  have hT : s.TypeIs (.ref it) "set_iterator" := ⟨_, hi, rfl⟩
  unfold pyNext
  refine wpAny_bind (wpAny_attempt (wpAny_callSpecial?_slot (name := Str.ofString "__next__") hT slot_seti_next (wpAny_call_entry slot_seti_next hT entry_seti_next ?_ (args_seti_next _))))
  show wpAny _ _ (fieldsOf (.ref it) >>= _) _ _ _
  refine wpAny_bind (wpAny_fieldsOf hi rfl ?_)
  show wpAny _ _ (setEntries a >>= _) _ _ _
  unfold setEntries
  refine wpAny_bind (wpAny_bind (wpAny_setState_of ho rfl (fits1 _) (wpAny_pure ?_)))
  show wpAny _ _ (setNext a 0 0 1 >>= _) _ _ _
  refine wpAny_bind (setNextA ho' (.inl ⟨rfl, rfl⟩) ?_)
  rw [if_pos rfl]
  show wpAny _ _ (setField (.ref it) 0 (rawInt (slotAfter w)) >>= _) _ _ _
  refine wpAny_bind (wpAny_setField_rec hi (by simp) fun h1 hi1 hs1 => ?_)
  refine wpAny_bind (wpAny_setField_rec hi1 (by simp) fun h2 hi2 hs2 => ?_)
  exact wpAny_pure ⟨_, rfl, wpAny_pure (h h2 (hs1.trans hs2) hi2)⟩
theorem setNext1 {a it : Addr} {Q : Option Value → Shared → Prop} (hh : A.handled = none) (ho : ∃ o, s.heap.get? a = some o ∧ isSet1 w o) (hne : a ≠ it) (hi : s.heap.get? it = some (setIt a (slotAfter w) 1))
    (h : ∀ h', Heap.ExtBut it s.heap h' → Q none { s with heap := h' }) : wpAny (model prog w) A (pyNext (.ref it)) Q E s := by
  have ho' := ho
  obtain ⟨o, ho, rfl⟩ := ho
  have hT : s.TypeIs (.ref it) "set_iterator" := ⟨_, hi, rfl⟩
  unfold pyNext
  refine wpAny_bind (wpAny_attempt (wpAny_callSpecial?_slot (name := Str.ofString "__next__") hT slot_seti_next (wpAny_call_entry slot_seti_next hT entry_seti_next ?_ (args_seti_next _))))
  show wpAny _ _ (fieldsOf (.ref it) >>= _) _ _ _
  refine wpAny_bind (wpAny_fieldsOf hi rfl ?_)
  show wpAny _ _ (setEntries a >>= _) _ _ _
  unfold setEntries
  refine wpAny_bind (wpAny_bind (wpAny_setState_of ho rfl (fits1 _) (wpAny_pure ?_)))
  show wpAny _ _ (setNext a (slotAfter w : Int).toNat 1 1 >>= _) _ _ _
  rw [Int.toNat_natCast]
  refine wpAny_bind (setNextA ho' (.inr ⟨rfl, rfl⟩) ?_)
  rw [if_neg (by decide)]
  show wpAny _ _ (setField (.ref it) 2 .none >>= _) _ _ _
  refine wpAny_bind (wpAny_setField_rec hi (by simp) fun h1 hi1 hs1 => ?_)
  show wpAny _ _ (newExc (.type "StopIteration") [] >>= _) _ _ _
  refine wpAny_bind ?_
  simp only [newExc, newTuple]
  refine wpAny_bind (wpAny_newObj_type ?_ (by size_fits))
  refine wpAny_bind (m := firstArgMember _ _) (wpAny_of_eq (a := Value.none) (by first | rfl | (simp only [firstArgMember]; rfl)) ?_)
  refine wpAny_newObj_type ?_ (by size_fits)
  simp only [raiseNew]
  refine wpAny_bind (wpAny_handled ?_)
  rw [show A.in1.handled = none from hh]
  refine wpAny_bind (wpAny_pure (wpAny_throw ?_))
  refine wpAny_bind (wpAny_isInstance (T := "StopIteration") (b := true) ⟨_, Heap.get?_push_size _ rfl, rfl⟩ isSubtype_stop ?_)
  refine wpAny_pure (h _ ?_)
  exact (hs1.extBut.push _).push _
/-- one name out of the set -/
theorem unpackSet {a : Addr} {Q : List Value → Shared → Prop} (hh : A.handled = none) (ho : ∃ o, s.heap.get? a = some o ∧ isSet1 w o)
    (h : ∀ h', Heap.ExtBut s.heap.objs.size s.heap h' → Q [.bool true] { s with heap := h' }) : wpAny (model prog w) A (unpackItems (.ref a) 1 none) Q E s := by
  have ho' := ho
  obtain ⟨o, ho, ho1⟩ := ho
  have hT : s.TypeIs (.ref a) "set" := ⟨_, ho, by rw [ho1]⟩
  have hne : a ≠ s.heap.objs.size := Nat.ne_of_lt (Heap.lt_size ho)
  unfold unpackItems
  refine wpAny_bind ?_
  · unfold notIterableAtAll
    refine wpAny_bind (wpAny_specialOf hT F.slot_set_iter.lookup ?_)
    refine wpAny_pure ?_
    simp only [Bool.false_eq_true, if_false]
    refine wpAny_bind (wpAny_holding (setIter ho' ?_))
    have k1 : ∀ b o, s.heap.get? b = some o → (s.heap.push (setIt a 0 0)).get? b = some o := fun b o e => Heap.get?_push_of_some _ e
    unfold draw
    refine wpAny_bind (wpAny_holding (wpAny_bind (setNext0 (a := a) ⟨o, k1 _ _ ho, ho1⟩ hne (Heap.get?_push_size _ rfl) fun h1 hs1 hi1 => ?_)))
    dsimp only
    refine wpAny_bind (wpAny_holding ?_)
    unfold draw
    refine wpAny_pure (wpAny_pure ?_)
    rw [if_neg (by simp)]
    have k2 : ∀ b o, b ≠ s.heap.objs.size → s.heap.get? b = some o → h1.get? b = some o := fun b o hb e => (hs1.2 b hb).trans (k1 b o e)
    refine wpAny_bind (wpAny_holding (setNext1 hh (a := a) ⟨o, k2 _ _ hne ho, ho1⟩ hne hi1 fun h2 hk => ?_))
    simp only [Option.isSome_none, Bool.false_eq_true, if_false]
    exact wpAny_pure (h h2 fun b o hb e => hk b o hb (k2 b o hb e))
end
end Mine

end
section
open PySem PySem.W PyProof.Rows
set_option Elab.async false
set_option autoImplicit false
set_option linter.unusedVariables false
set_option maxRecDepth 100000
namespace Mine
theorem compTurn_set (elt target iter : Expr) (scope : Scope) (pos : Pos) (it acc : Value) (env : Env) :
    compTurn (.SetComp elt [⟨target, iter, [], 0⟩] scope pos) 0 it acc env = (standAt iter.pos >>= fun _ => pyNext it >>= fun r => match r with
      | none => Pure.pure (.done .next)
      | some v => letOwnedTupleGo target it v >>= fun _ => assign target env v >>= fun _ =>
        (eval elt env >>= fun x => standAt elt.pos >>= fun _ => call (.builtin "set.add") [acc, x] >>= fun _ => Pure.pure ()) >>= fun _ =>
          again (.compLoop (.SetComp elt [⟨target, iter, [], 0⟩] scope pos) 0 it acc env)) := by rfl
section
variable {prog : Program} {w : World} {A : Around} {E : Value → Shared → Prop} {s : Shared} {R : Result → Shared → Prop}
theorem codeAny_compStart_set {elt target iter : Expr} {ifs : List Expr} {rest : List Comprehension} {scope : Scope} {pos : Pos} {it acc : Value} {env : Env}
    (h0 : codeAny (model prog w) A (.compLoop (.SetComp elt (⟨target, iter, ifs, 0⟩ :: rest) scope pos) 0 it acc env) R s)
    (h : wpAny (model prog w) A (pyIter it) (fun it' s' => codeAny (model prog w) A (.compLoop (.SetComp elt (⟨target, iter, ifs, 0⟩ :: rest) scope pos) 0 it' acc env) R s')
      (notedBy (model prog w) A env fun x s' => R (.error x) s') s) :
    codeAny (model prog w) A (.compStart (.SetComp elt (⟨target, iter, ifs, 0⟩ :: rest) scope pos) 0 it acc env) R s := by
  refine codeAny_of_tree ?_
  show wpAny _ _ ((compStart (.SetComp elt (⟨target, iter, ifs, 0⟩ :: rest) scope pos) 0 it acc env).onRaise (fun x => do noteFrame x env; standAt theWindowsPlace)) _ _ s
  refine wpAny_notedAt ?_
  unfold compStart
  show wpAny _ _ (ask >>= _) _ _ s
  refine wpAny_bind (wpAny_askSetting (wpAny_ite ?_))
  split
  · first
      | exact wpAny_bind (wpAny_pure (wpAny_pure (And.intro rfl h0)))
      | exact wpAny_pure (And.intro rfl h0)
  · first
      | exact wpAny_bind (wpAny_rule (wpAny_bind (wpAny_standAt (wpAny_bind (wpAny_mono h (fun it' s' h' => wpAny_pure (And.intro rfl h')) fun _ _ x => x)))))
      | (refine wpAny_bind (wpAny_rule ?_); show wpAny _ _ (standAt iter.pos >>= _) _ _ s; exact wpAny_bind (wpAny_standAt (wpAny_bind (wpAny_mono h (fun it' s' h' => wpAny_pure (And.intro rfl h')) fun _ _ x => x))))
theorem codeAny_compLoop_set {elt target iter : Expr} {scope : Scope} {pos : Pos} {it acc : Value} {env : Env} (I : Nat → Shared → Prop)
    (turn : ∀ n s, I n s → wpAny (model prog w) A (pyNext it) (fun r s₁ => match r with
      | none => R (.ok .next) s₁
      | some v => wpAny (model prog w) A (assign target env v) (fun _ s₂ => wpAny (model prog w) A (eval elt env) (fun x s₃ =>
          wpAny (model prog w) A (call (.builtin "set.add") [acc, x]) (fun _ s₄ => ∃ m, m < n ∧ I m s₄) (notedBy (model prog w) A env fun e s' => R (.error e) s') s₃)
          (notedBy (model prog w) A env fun e s' => R (.error e) s') s₂) (notedBy (model prog w) A env fun e s' => R (.error e) s') s₁) (notedBy (model prog w) A env fun e s' => R (.error e) s') s)
    (n : Nat) (h : I n s) (ht : ∀ v, letOwnedTupleGo target it v = Pure.pure ()) :
    codeAny (model prog w) A (.compLoop (.SetComp elt [⟨target, iter, [], 0⟩] scope pos) 0 it acc env) R s := by
  refine codeAny_loop rfl I (fun n s hI => ?_) n h
  show wpAny _ _ ((compTurn (.SetComp elt [⟨target, iter, [], 0⟩] scope pos) 0 it acc env).onRaise (fun x => do noteFrame x env; theTreesLotGoes x)) _ _ s
  refine wpAny_noted ?_
  rw [compTurn_set]
  refine wpAny_bind (wpAny_standAt (wpAny_bind (wpAny_mono (turn n s hI) (fun r s₁ h₁ => ?_) fun _ _ h' => h')))
  cases r with
  | none => exact wpAny_pure h₁
  | some v =>
    refine wpAny_bind (wpAny_of_eq (ht v) ?_)
    exact wpAny_bind (wpAny_mono h₁ (fun _ s₂ h₂ => wpAny_bind (wpAny_bind (wpAny_mono h₂ (fun x s₃ h₃ => wpAny_bind (wpAny_standAt (wpAny_bind (wpAny_mono h₃
      (fun _ s₄ h₄ => wpAny_pure (wpAny_pure ⟨rfl, h₄⟩)) fun _ _ h' => h')))) fun _ _ h' => h'))) fun _ _ h' => h')
end
noncomputable def isSetI (w : World) (i : Nat) (o : Obj) : Prop := (i = 0 ∧ isSet0 w o) ∨ (i ≠ 0 ∧ isSet1 w o)
section
variable {c : Cx} {B : Heap} {m : Lo} {own : Ow}
theorem gx_setAdd {a : Addr} {i : Nat} {pre post : Ow} : GX c B m (pre ++ (a, isSetI c.w i) :: post) (call (.builtin "set.add") [.ref a, .bool true]) fun B' own' r => B' = B ∧ own' = pre ++ (a, isSetI c.w (i + 1)) :: post :=
  ⟨fun s Q E F q => by
    obtain ⟨o, ho, hP⟩ := F.ow _ mem_mid
    have fin : ∀ h' k, Heap.SameBut a s.heap h' → (∃ o, h'.get? a = some o ∧ isSet1 c.w o) → s.toks ≤ k → Q .none { s with heap := h', toks := k } := fun h' k hs ⟨o', ho', h1⟩ hk => by
      have F2 := F.upd (s' := { s with heap := h', toks := k }) (P := isSetI c.w i) mem_mid hs ho' (Q := isSetI c.w (i + 1)) (.inr ⟨Nat.succ_ne_zero _, h1⟩) rfl rfl hk
      rw [setO_split F.nd] at F2
      exact q _ _ B _ (Bs.refl _ _) F2 ⟨rfl, rfl⟩
    rcases hP with ⟨_, h0⟩ | ⟨_, h1⟩
    · exact setAdd0 ⟨o, ho, h0⟩ fun h' k hs hx hk => fin h' k hs hx hk
    · exact setAdd1 ⟨o, ho, h1⟩ fun k hk => fin s.heap k (Heap.SameBut.refl a s.heap) ⟨o, ho, h1⟩ hk⟩
theorem newSet_acc {B : Heap} {own : Ow} : ∀ (s : Shared) (Q : Value → Shared → Prop) (E : Value → Shared → Prop), Fm c B m own s → (∀ a s' B', Bs c.n B B' → B.get? a = none → c.n ≤ a → Fm c B' m ((a, isSetI c.w 0) :: own) s' → Q (.ref a) s') → wpAny (Md c.w) c.A (newSet (.type "set")) Q E s := fun s Q E F q => by
  unfold newSet
  refine wpAny_bind (byText_ask (wpAny_pure ?_))
  dsimp only
  simp only [newObj]
  refine wpAny_bind (wpAny_alloc (wpAny_pure ?_))
  have g2 : Grow s { s with heap := s.heap.push { cls := .type "set", dict := none, data := .set #[] 0 (.fresh 0 0 (!byText c.w)) } } := ⟨fun b o e => Heap.get?_push_of_some _ e, by simp, rfl, rfl⟩
  obtain ⟨b4, F4⟩ := F.grow g2 F.tk
  have b4' := b4.low F.size
  have F5 := F4.take (P := isSetI c.w 0) b4' F.fresh (grown_new (Heap.get?_push_size _ rfl) (Nat.le_refl _)) (.inl ⟨rfl, rfl⟩)
  exact q _ _ _ (less_bs b4' F.fresh) F.fresh F.size F5
theorem comp_loopS {elt iter : Expr} {x : Str} {px pos : Pos} {scope : Scope} {cl : List (Str × Addr)} {B1 B5 : Heap} {vs : List Value} {C it acc : Addr} {Y : Ow} {s6 : Shared} {R : Result → Shared → Prop} {St : Nat → Obj → Prop}
    (turn : ∀ (i : Nat) u B2 m0 own', vs[i]? = some u → Bs c.n B1 B2 → EV (cpx c scope cl C) B2 (put m0 x u) own' elt fun _ y => y = .bool true) (hkind : scope.kind = .function) (hx : scope.names.lookup x = some .local)
    (bb : Bs c.n B1 B5) (F6 : Fm (cpx c scope cl C) B5 [] ((it, St 0) :: (acc, isSetI c.w 0) :: Y) s6)
    (hnx : ∀ (c' : Cx) B', c'.A = c.A → Ext B1 B' → ∀ it i x p, NX c' B' it St i (decide (i < vs.length)) (.Name x p) fun _ v => vs[i]? = some v)
    (hself : ∀ (s : Shared) it i (Q : Value → Shared → Prop) E o, s.heap.get? it = some o → St i o → Q (.ref it) s → wpAny (Md c.w) c.A (pyIter (.ref it)) Q E s)
    (hR : ∀ s' B' m', Bs c.n B5 B' → Fm (cpx c scope cl C) B' m' ((acc, isSetI c.w vs.length) :: Y) s' → R (.ok .next) s') :
    codeAny (Md c.w) c.A (.compStart (.SetComp elt [⟨.Name x px, iter, [], 0⟩] scope pos) 0 (.ref it) (.ref acc) (compEnvC scope cl C c.env)) R s6 := by
  have loop : codeAny (Md c.w) c.A (.compLoop (.SetComp elt [⟨.Name x px, iter, [], 0⟩] scope pos) 0 (.ref it) (.ref acc) (compEnvC scope cl C c.env)) R s6 := by
    refine codeAny_compLoop_set (fun n s => ∃ i Bi m1, n + i = vs.length ∧ Bs c.n B1 Bi ∧ Bs c.n B5 Bi ∧ Fm (cpx c scope cl C) Bi m1 ((it, St i) :: (acc, isSetI c.w i) :: Y) s) (fun n s hI => ?_) vs.length ⟨0, B5, [], rfl, bb, Bs.refl _ _, F6⟩ fun _ => rfl
    obtain ⟨i, Bi, mi, hni, bi, bi5, Fi⟩ := hI
    refine (hnx (cpx c scope cl C) Bi rfl bi.ext it i x px).run Bi mi _ s _ _ (Bs.refl _ _) Fi (fun hm v s' hlet => ?_) (fun hm s' F' => ?_)
    · have hlt : i < vs.length := of_decide_eq_true hm
      show wpAny _ _ _ _ _ _
      have key := wpAny_bind (f := fun _ => assign (.Name x px) (compEnvC scope cl C c.env) v) (hlet _ _ fun s'' B'' b'' hV F'' => (TG.name (c := cpx c scope cl C) (x := x) (p := px) (V := fun _ v => vs[i]? = some v) (lookup_relabel_local hx) hkind).run B'' mi _ v s'' (fun _ s₂ =>
        wpAny (Md c.w) c.A (eval elt (compEnvC scope cl C c.env)) (fun y s₄ =>
            wpAny (Md c.w) c.A (call (.builtin "set.add") [.ref acc, y]) (fun _ s₅ => ∃ k, k < n ∧ ∃ i Bi m1, k + i = vs.length ∧ Bs c.n B1 Bi ∧ Bs c.n B5 Bi ∧ Fm (cpx c scope cl C) Bi m1 ((it, St i) :: (acc, isSetI c.w i) :: Y) s₅) (notedBy (Md c.w) c.A (compEnvC scope cl C c.env) fun e s' => R (.error e) s') s₄) (notedBy (Md c.w) c.A (compEnvC scope cl C c.env) fun e s' => R (.error e) s') s₂)
        (notedBy (Md c.w) c.A (compEnvC scope cl C c.env) fun e s' => R (.error e) s') hV F'' fun s3 B3 m3 b3 hU F3 => ?_)
      · rw [letOwned_name, pure_bind] at key
        exact key
      · obtain ⟨u, hu, rfl⟩ := hU
        have bc : Bs c.n Bi B3 := b''.trans b3
        refine ((turn i u B3 mi ((it, St (i + 1)) :: (acc, isSetI c.w i) :: Y) hu (bi.trans bc)).run B3 (Bs.refl _ _)).run s3 _ _ F3 fun y s5 B6 b6 F6 r6 => ?_
        subst r6
        refine (gx_setAdd (c := cpx c scope cl C) (pre := [(it, St (i + 1))]) (post := Y)).run s5 _ _ F6 fun _ s7 B7 own7 b7 F7 r7 => ?_
        obtain ⟨rfl, rfl⟩ := r7
        have b8 := bc.trans b6
        exact ⟨n - 1, by omega, i + 1, B7, _, by omega, bi.trans b8, bi5.trans b8, F7⟩
    · have hlt : ¬ i < vs.length := of_decide_eq_false hm
      have : i = vs.length := by omega
      subst this
      exact hR _ _ _ bi5 F'
  exact codeAny_compStart_set loop (by
    obtain ⟨o6, ho6, hS6⟩ := F6.ow _ (.head _)
    exact hself _ it 0 _ _ o6 ho6 hS6 loop)
/-- one name out of a set comprehension whose elements are all True -/
theorem XW.assignSet {K : Flow → Heap → Lo → Ow → Prop} {rest : List Stmt} {elt iter : Expr} {x y : Str} {px py pos spos tp : Pos} {k : Nat} {scope : Scope} {cl : List (Str × Addr)} {R0 : Heap → Value → Prop} (hh : c.A.handled = none) (he : EV c B m own iter R0)
    (hi : ∀ B1 v, Bs c.n B B1 → R0 B1 v → ∃ a vs, v = .ref a ∧ Src B1 a vs ∧ vs ≠ [] ∧ ∀ (i : Nat) u C B2 m0 own', vs[i]? = some u → Bs c.n B1 B2 → EV (cpx c scope cl C) B2 (put m0 x u) own' elt fun _ y => y = .bool true)
    (k' : ∀ B2, Bs c.n B B2 → XW c B2 (put m y (.bool true)) own (execs rest c.env) K)
    (hclos : closureFor scope c.env = Pure.pure cl) (hcell : ∀ y ∈ scope.names, y.2 ≠ .cell) (hkind : scope.kind = .function) (hnames : ∀ y ∈ scope.names, y.2 = .local → scope.names.lookup y.1 = some .local) (hx : scope.names.lookup x = some .local)
    (hs : ∀ y, foldedSetIterable iter c.env y = Pure.pure y) (hl : c.env.kindOf y = some .local) (hk : c.env.scope.kind = .function)
    (hs1 : swapsWithSole [.Tuple [.Name y py] k tp] (.SetComp elt [⟨.Name x px, iter, [], 0⟩] scope pos) spos.line c.env = Pure.pure false) (hw : swappedStores [.Tuple [.Name y py] k tp] (.SetComp elt [⟨.Name x px, iter, [], 0⟩] scope pos) c.env = Pure.pure none) :
    XW c B m own (execs (.Assign [.Tuple [.Name y py] k tp] (.SetComp elt [⟨.Name x px, iter, [], 0⟩] scope pos) spos :: rest) c.env) K :=
  XW.cons ⟨fun s Q E F q => by
    refine Assign_Tuple ?_ hs1 hw
    rw [arm_eval_SetComp]
    show wpAny _ c.A (comprehension (.SetComp elt [⟨.Name x px, iter, [], 0⟩] scope pos) scope c.env _ (newSet (.type "set")) false (eval iter c.env) none) _ _ s
    refine comp_shell (iter := iter) (g := ⟨.Name x px, iter, [], 0⟩) (gs := []) (P := fun _ => isSet1 c.w) (P0 := isSetI c.w 0) (T := fun _ _ => True) rfl rfl hh he (fun B own s Q E F q => newSet_acc s Q E F q) (fun B1 v b1 r1 => ?_) hclos hcell hkind hnames hs s _ E F fun acc ys s' B' C b' hna hnn F' hT => ?_
    · obtain ⟨a, vs, rfl, hsrc, hne, turn⟩ := hi B1 v b1 r1
      refine ⟨a, vs, rfl, hsrc, fun C B5 it acc Y s6 R St bb F6 hnx hself hR => comp_loopS (fun i u B2 m0 own' => turn i u C B2 m0 own') hkind hx bb F6 hnx hself fun s' B' m' b' F' => hR s' B' m' [] b' ?_ trivial⟩
      refine ⟨F'.gg, F'.gx, F'.gn, F'.keep, F'.size, F'.frz, F'.ns, fun p hp => ?_, F'.bL, F'.lL, fun p hp => ?_, F'.nd, F'.gens, F'.os, F'.tk⟩
      · rcases List.mem_cons.mp hp with rfl | hp
        · obtain ⟨o, ho, hP⟩ := F'.ow _ (.head _)
          rcases hP with ⟨h0, _⟩ | ⟨_, h1⟩
          · exact absurd (List.length_eq_zero_iff.mp h0) hne
          · exact ⟨o, ho, h1⟩
        · exact F'.ow p (.tail _ hp)
      · rcases List.mem_cons.mp hp with rfl | hp
        · exact F'.bown (acc, isSetI c.w vs.length) (.head _)
        · exact F'.bown p (.tail _ hp)
    · refine comp_end_none F' fun s'' F2 => ?_
      rw [arm_assign_Tuple]
      refine wpAny_bind (wpAny_standAt ?_)
      show wpAny _ _ (unpack (.ref acc) [(false, PySem.assign (.Name y py) c.env)]) _ _ _
      unfold unpack
      refine wpAny_bind (wpAny_holding (unpackSet hh (F2.ow _ (.head _)) fun h' hx' => ?_))
      have F3 : Fm c B' m ((acc, isSet1 c.w) :: own) { s'' with heap := h' } := F2.extNew (k := s''.toks) (d := s''.drawn) hx' (Nat.le_refl _)
      show wpAny _ _ (assignInOrder [PySem.assign (.Name y py) c.env] [.bool true]) _ _ _
      refine wpAny_assignInOrder_more (wpAny_assign_Name ?_)
      refine GV.sto (K := fun _ _ => True) hl hk _ _ E F3 fun s3 F4 => ?_
      refine wpAny_assignInOrder_none ?_
      exact q .next s3 B' _ _ b' F4.drop (k' B' b')⟩
end
end Mine

end
section
open PySem PySem.W PyProof.Rows
set_option Elab.async false
set_option autoImplicit false
set_option linter.unusedVariables false
set_option maxRecDepth 100000
namespace Mine
theorem fn_common (w : World) : FnK w 194 (fdOf 41 .none pathM (.ref 193)) := ⟨⟨.type "function", none, #[], by kernel_rfl⟩, by kernel_rfl⟩
noncomputable abbrev cpFd : FuncData := fdOf 41 .none pathM (.ref 193)
/-- the common part of the least and the greatest -/
theorem kS_S (xs : List (List Nat)) : kS (xs.map S) = xs := by simp [kS, Function.comp_def]
theorem lt_pre {xs ys : List (List Nat)} {i : Nat} (h : ¬ ys < xs) (e : xs.take i = ys.take i) (hi : i < xs.length) : i < ys.length := by
  rcases Nat.lt_or_ge i ys.length with q | q
  · exact q
  · exfalso
    apply h
    have e1 : ys = xs.take i := by rw [e, List.take_of_length_le q]
    have e2 : xs = ys ++ xs.drop i := by rw [e1, List.take_append_drop]
    obtain ⟨z, zs, e3⟩ := List.exists_cons_of_ne_nil (show xs.drop i ≠ [] by simp; omega)
    rw [e3] at e2
    rw [e2]
    clear e2 e3 e1 e h q
    induction ys with
    | nil => exact List.nil_lt_cons _ _
    | cons y r ih => exact List.cons_lt_cons_iff.mpr (.inr ⟨rfl, ih⟩)
theorem bindL_one {kindOf : Str → Option NameKind} {x : Str} {v : Value} (h : kindOf x = some .local) : bindL kindOf [(x, v)] (fun _ => none) = fun y => [(x, v)].reverse.lookup y := by
  funext y
  show (if kindOf x = some .local then fun z => if z = x then some v else none else fun _ => none) y = List.lookup y [(x, v)]
  rw [if_pos h]
  by_cases e : y = x
  · subst e; simp
  · simp [List.lookup_cons, beq_eq_false_iff_ne.mpr e, e]
theorem bindC_one {kindOf : Str → Option NameKind} {x y : Str} {v : Value} (h : kindOf x = some .local) : bindC kindOf [(x, v)] (fun _ => none) y = none := by
  show (if kindOf x = some .local then fun _ => none else fun z => if z = x then some v else none) y = none
  rw [if_pos h]
noncomputable abbrev scS : Scope := { kind := ScopeKind.function, names := [(Str.ofString ".0", NameKind.local), (Str.ofString "s", NameKind.local), (Str.ofString "curdir", NameKind.free)], isGenerator := false, isCoroutine := false, more := [] }
noncomputable abbrev scC : Scope := { kind := ScopeKind.function, names := [(Str.ofString ".0", NameKind.local), (Str.ofString "c", NameKind.local), (Str.ofString "curdir", NameKind.free)], isGenerator := false, isCoroutine := false, more := [] }
noncomputable def pcs (rs : List (List Nat)) : List (List Nat) := [] :: rs.flatMap fun r => [[], r]
theorem SLs.two {h : Heap} {p q : List (List Nat)} {rs : List Addr} (x : SLs h rs [p, q]) : ∃ r1 r2, rs = [r1, r2] ∧ SL h r1 (p.map S) ∧ SL h r2 (q.map S) := by
  cases rs with
  | nil => exact (show False from x).elim
  | cons r1 rs =>
    obtain ⟨h1, x⟩ := (show SL h r1 (p.map S) ∧ SLs h rs [q] from x)
    cases rs with
    | nil => exact (show False from x).elim
    | cons r2 rs =>
      obtain ⟨h2, x⟩ := (show SL h r2 (q.map S) ∧ SLs h rs [] from x)
      cases rs with
      | nil => exact ⟨r1, r2, rfl, h1, h2⟩
      | cons r3 rs => exact (show False from x).elim
theorem alk_at : ∀ (xs ys : List (List Nat)) (k : Nat), xs.take k = ys.take k → k ≤ xs.length → k ≤ ys.length → (∀ x y, xs[k]? = some x → ys[k]? = some y → x ≠ y) → alk xs ys = xs.take k
  | [], ys, k, _, h1, _, _ => by cases ys <;> simp_all [alk]
  | x :: xs, [], k, _, _, h2, _ => by simp at h2; subst h2; simp [alk]
  | x :: xs, y :: ys, 0, _, _, _, h => by
    have := h x y rfl rfl
    simp [alk, this]
  | x :: xs, y :: ys, k + 1, e, h1, h2, h => by
    simp only [List.take_succ_cons, List.cons.injEq] at e
    obtain ⟨rfl, e⟩ := e
    simp only [alk, if_true, List.take_succ_cons]
    rw [alk_at xs ys k e (by simpa using h1) (by simpa using h2) (fun x y h3 h4 => h x y h3 h4)]
theorem ks_tri {a b : List (List Nat)} (h1 : ¬ a < b) (h2 : ¬ b < a) : a = b := List.le_antisymm (List.not_lt.mp h2) (List.not_lt.mp h1)
theorem ks_asym {a b : List (List Nat)} (h1 : a < b) (h2 : b < a) : False := List.lt_irrefl a (List.lt_trans h1 h2)
theorem alk_mm (ra rb : List (List Nat)) : alk (if rb < ra then rb else ra) (if ra < rb then rb else ra) = alk ra rb := by
  by_cases h1 : rb < ra
  · rw [if_pos h1, if_neg (fun h2 => ks_asym h1 h2), alk_comm]
  · rw [if_neg h1]
    by_cases h2 : ra < rb
    · rw [if_pos h2]
    · rw [if_neg h2, ks_tri h2 h1]
theorem mm_le (ra rb : List (List Nat)) : ¬ (if ra < rb then rb else ra) < (if rb < ra then rb else ra) := by
  by_cases h1 : rb < ra
  · rw [if_pos h1, if_neg (fun h2 => ks_asym h1 h2)]; exact fun h => ks_asym h1 h
  · rw [if_neg h1]
    by_cases h2 : ra < rb
    · rw [if_pos h2]; exact h1
    · rw [if_neg h2]; exact List.lt_irrefl _
theorem dr_len : ∀ {rs : List (List Nat)}, (∀ r ∈ rs, r.length ≤ 100) → (dr rs).length ≤ 2 + 102 * rs.length
  | [], _ => by simp [dr]
  | r :: rs, h => by
    rw [dr_flat (by simp)]
    have key : ∀ rs : List (List Nat), (∀ r ∈ rs, r.length ≤ 100) → (rs.flatMap fun r => [47, 47] ++ r).length ≤ 102 * rs.length := fun rs => by
      induction rs with
      | nil => intro _; simp
      | cons x xs ih =>
        intro h
        have h1 := h x (by simp)
        have h2 := ih fun y hy => h y (by simp [hy])
        rw [List.flatMap_cons, List.length_append, List.length_cons]
        simp only [List.cons_append, List.nil_append, List.length_cons] at h2 ⊢
        omega
    exact Nat.le_trans (key _ h) (by omega)
theorem EV.ifT {c : Cx} {B : Heap} {m : Lo} {own : Ow} {test body orelse : Expr} {pos : Pos} {R : Heap → Value → Prop} (ht : TV c B m own test true) (hb : EV c B m own body R) : EV c B m own (.IfExp test body orelse pos) R :=
  ⟨fun B' b => ⟨fun s Q E F q => by
    refine wpAny_IfExp ((ht.run B' b).run s _ E F fun v s1 B1 b1 F1 r1 => ?_)
    subst r1
    rw [if_pos rfl]
    exact (hb.run B1 (b.trans b1)).run s1 Q E F1 fun v s2 B2 b2 F2 r2 => q v s2 B2 (b1.trans b2) F2 r2⟩⟩
noncomputable def Ce (h : Heap) (a : Addr) (v : Value) : Prop := ∃ o, h.get? a = some o ∧ isC (some v) o
theorem Ce.ext {h h' : Heap} {a : Addr} {v : Value} (x : Ce h a v) (e : Ext h h') : Ce h' a v := let ⟨o, ho, r⟩ := x; ⟨o, e _ _ ho, r⟩
section
variable {c : Cx} {B : Heap} {m : Lo} {own : Ow}
theorem p_common {l : Addr} {ra rb : List (List Nat)} {t u : Tok} (room : c.A.depth + 1 < recursionLimit) (hh : c.A.handled = none) (hu : c.A.units ≤ 5000) (hl : Ls B l [.str (S (dr ra)) t, .str (S (dr rb)) u]) (hna : ra ≠ []) (hnb : rb ≠ [])
    (hra' : ∀ r ∈ ra, Row r ∧ r ≠ [46] ∧ r.length ≤ 100) (hrb' : ∀ r ∈ rb, Row r ∧ r ≠ [46] ∧ r.length ≤ 100) (hza : ra.length ≤ 90) (hzb : rb.length ≤ 90) :
    GV c B m own (call (.ref 194) [.ref l]) fun _ v => ∃ t, v = .str (S ([47] ++ List.intercalate [47] (alk ra rb))) t := by
  have hra : ∀ r ∈ ra, Row r ∧ r ≠ [46] := fun r h => ⟨(hra' r h).1, (hra' r h).2.1⟩
  have hrb : ∀ r ∈ rb, Row r ∧ r ≠ [46] := fun r h => ⟨(hrb' r h).1, (hrb' r h).2.1⟩
  have hla : (dr ra).length ≤ 10000 := by have := dr_len fun r h => (hra' r h).2.2; omega
  have hlb : (dr rb).length ≤ 10000 := by have := dr_len fun r h => (hrb' r h).2.2; omega
  refine GV.fnC (binds := [kv "paths" (.ref l)]) (fn_common c.w) rfl (by omega) rfl (locs (by rfl)) rfl rfl rfl rfl (fun L => bindL_one rfl) (fun L n => bindC_one rfl) (fun L => by show ([Str.ofString "curdir", Str.ofString "sep"] : List Str).Nodup; decide +kernel) fun s => ?_
  have room' : (subC c cpFd 194 s).A.depth < recursionLimit := room
  have hh' : (subC c cpFd 194 s).A.handled = none := hh
  show XW (subC c cpFd 194 s) B [kv "paths" (.ref l)] [(s.heap.objs.size + 1 + 1, isC none), (s.heap.objs.size + 1, isC none)] _ _
  refine XW.assignX ((EX.tupleMap hh' (VV.bl (bl_tuple _) rfl rfl rfl rfl) (VV.bl (bl_map _) rfl rfl rfl rfl) (VV.glob (g_fspath _) rfl rfl rfl) (VV.loc rfl rfl rfl) hl two_le (fun u B' own' v hv b => ?_) (fun _ => rfl) fun _ => rfl).mono fun B1 own1 v b1 r => ?_) rfl rfl rfl
  · simp only [List.mem_cons, List.not_mem_nil, or_false] at hv
    rcases hv with rfl | rfl
    · exact fs_path room'
    · exact fs_path room'
  obtain ⟨tu, rfl, rfl, htu⟩ := r
  refine XW.ite (x := false) (TV.not (x := true) (TV.val (VV.loc rfl rfl rfl) (fun B2 v b2 ev => by subst ev; exact gv_truthy_tuple (htu.ext b2.ext) (by show 2 < 2 ^ 62; decide)) fun _ => rfl)) (fun h => nomatch h) fun _ B2 b2 => XW.nil ?_
  have htu2 := htu.ext b2.ext
  refine XW.ite (x := false) (TV.ofV (EV.callB (VV.bl (bl_isinstance _) rfl rfl rfl rfl) (AV.cons (EV.sub (R := fun _ r => r = .str (S (dr ra)) t) (VV.loc rfl rfl rfl) fun B3 o b3 eo => IV.lit.mono fun B4 v b4 ⟨t4, ev⟩ => by
    subst eo ev; exact gv_tail_tuple (k := 0) (htu2.ext (b3.trans b4).ext) (by decide) rfl rfl) (fun B3 v b3 ev => AV.cons (VV.bl (bl_bytes _) rfl rfl rfl rfl) (fun B4 w b4 ew => AV.nil fun B5 b5 => by subst ev ew; exact gv_isi_bytes) fun _ => rfl) fun _ => rfl) (fun _ => rfl) fun _ => rfl) fun _ => rfl) (fun h => nomatch h) fun _ B3 b3 => ?_
  refine XW.assignCell (pre := [(s.heap.objs.size + 1 + 1, isC none)]) (post := []) (v₀ := none) (a := s.heap.objs.size + 1) (SV.lit.mono fun B4 v b4 ⟨t4, ev⟩ => ?_) rfl rfl rfl rfl
  subst ev
  refine XW.assignCell (pre := []) (post := [(s.heap.objs.size + 1, isC (some (.str "/" t4)))]) (v₀ := none) (a := s.heap.objs.size + 1 + 1) (SV.lit.mono fun B5 v b5 ⟨t5, ev⟩ => ?_) rfl rfl rfl rfl
  subst ev
  refine XW.nil ?_
  show XW (subC c cpFd 194 s) B5 _ ((s.heap.objs.size + 1 + 1, isC (some (.str "." t5))) :: (s.heap.objs.size + 1, isC (some (.str "/" t4))) :: []) _ _
  refine XW.give (by show s.heap.objs.size ≤ _; omega) fun B6 b6 hcu => ?_
  refine XW.give (by show s.heap.objs.size ≤ _; omega) fun B7 b7 hsp => ?_
  have hcu : Ce B7 (s.heap.objs.size + 1 + 1) (.str "." t5) := Ce.ext (h := B6) hcu b7.ext
  have hsp : Ce B7 (s.heap.objs.size + 1) (.str "/" t4) := hsp
  have htu7 := htu2.ext (b3.trans (b4.trans (b5.trans (b6.trans b7)))).ext
  clear hl htu htu2 b1 b2 b3 b4 b5 b6 b7
  refine XW.tryE ?_
  have hcl1 : closureFor { kind := ScopeKind.function, names := [(Str.ofString ".0", NameKind.local), (Str.ofString "path", NameKind.local), (Str.ofString "sep", NameKind.free)], isGenerator := false, isCoroutine := false, more := [] } (subC c cpFd 194 s).env = Pure.pure [(Str.ofString "sep", s.heap.objs.size + 1)] := rfl
  refine XW.assignComp (cl := [(Str.ofString "sep", s.heap.objs.size + 1)]) (T := fun B ys => ∃ r1 r2, ys = [.ref r1, .ref r2] ∧ SL B r1 ((pcs ra).map S) ∧ SL B r2 ((pcs rb).map S)) hh' (VV.loc rfl rfl rfl) (fun B8 v b8 ev => ?_) (fun a1 ys B8 hn1 b8 hf1 hT => ?_) hcl1 (by decide) rfl (by decide) rfl (fun _ => rfl) rfl rfl rfl
  · subst ev
    refine ⟨tu, _, rfl, .inr (htu7.ext b8.ext), two_le, fun i B ys => ∃ rs : List Addr, ys = rs.map .ref ∧ SLs B rs ([pcs ra, pcs rb].take i), fun B2 b2 => ⟨[], rfl, trivial⟩, ?_, ?_⟩
    · rintro i w C Bi B9 m0 own' ys hw bi b9 ⟨rs, rfl, hS⟩
      refine ⟨true, TS.nil, (fun h => nomatch h), fun _ B10 b10 => ?_⟩
      obtain ⟨rows, tk, rfl, hne, hr, hz, htk⟩ : ∃ rows tk, w = .str (S (dr rows)) tk ∧ rows ≠ [] ∧ (∀ r ∈ rows, Row r ∧ r ≠ [46]) ∧ (dr rows).length ≤ 10000 ∧ ([pcs ra, pcs rb].take (i + 1) = [pcs ra, pcs rb].take i ++ [pcs rows]) := by
        match i, hw with
        | 0, hw => cases hw; exact ⟨ra, t, rfl, hna, hra, hla, rfl⟩
        | 1, hw => cases hw; exact ⟨rb, u, rfl, hnb, hrb, hlb, rfl⟩
      have hzz : (S (dr rows)).length + 2 ≤ sizeLine := by rw [S_len]; unfold sizeLine; omega
      refine (EV.strM1 (VV.str (VV.loc lk_same rfl rfl)) PySem.F.slot_str_split PySem.F.type_str_split (VV.str (VV.cell (hsp.ext (b8.trans (bi.trans (b9.trans b10))).ext) rfl rfl rfl)) (R := fun B1 v => ∃ a, v = .ref a ∧ SL B1 a (Txt.split (S (dr rows)) (Str.ofString "/"))) (fun B1 t u => (gv_split rfl hzz).mono fun _ _ _ ⟨a, e1, _, e2⟩ => ⟨a, e1, e2⟩) (mc_of (fun _ => rfl) rfl rfl) fun _ => rfl).mono fun B11 y b11 r => ?_
      obtain ⟨r, rfl, hr'⟩ := r
      rw [show Str.ofString "/" = S [47] from rfl, split_dr hne fun r h => (hr r h).1] at hr'
      refine ⟨rs ++ [r], by simp, ?_⟩
      rw [htk]
      exact SLs.snoc hr' (hS.ext (b9.trans (b10.trans b11)).ext)
    · rintro B9 B10 ys b9 ⟨rs, rfl, hS⟩ b10
      obtain ⟨r1, r2, rfl, h1, h2⟩ := SLs.two hS
      exact ⟨r1, r2, rfl, h1.ext b10.ext, h2.ext b10.ext⟩
  obtain ⟨p1, p2, rfl, hp1, hp2⟩ := hT
  refine XW.give hn1 fun B9 b9 hL1 => ?_
  have hL1 : Ls B9 a1 [.ref p1, .ref p2] := hL1
  have hp1 := hp1.ext b9.ext
  have hp2 := hp2.ext b9.ext
  have htu9 := htu7.ext (b8.trans b9).ext
  have hsp := hsp.ext (b8.trans b9).ext
  have hcu := hcu.ext (b8.trans b9).ext
  clear hf1 b8 b9 htu7
  have starts : ∀ rows : List (List Nat), Txt.startswith (S (dr rows)) (S [47]) = true := fun rows => by
    unfold Txt.startswith
    rw [StrLaws.subAt_eq]
    cases rows <;> rfl
  have hcl2 : closureFor { kind := ScopeKind.function, names := [(Str.ofString ".0", NameKind.local), (Str.ofString "p", NameKind.local), (Str.ofString "sep", NameKind.free)], isGenerator := false, isCoroutine := false, more := [] } (subC c cpFd 194 s).env = Pure.pure [(Str.ofString "sep", s.heap.objs.size + 1)] := rfl
  refine XW.tryE (XW.assignSet (cl := [(Str.ofString "sep", s.heap.objs.size + 1)]) hh' (VV.loc rfl rfl rfl) (fun B10 v b10 ev => ?_) (fun B10 b10 => ?_) hcl2 (by decide) rfl (by decide) rfl (fun _ => rfl) rfl rfl rfl rfl)
  · subst ev
    refine ⟨tu, _, rfl, .inr (htu9.ext b10.ext), by simp, fun i w C B11 m0 own' hw b11 => ?_⟩
    obtain ⟨rows, tk, rfl⟩ : ∃ rows tk, w = .str (S (dr rows)) tk := by
      match i, hw with
      | 0, hw => cases hw; exact ⟨ra, t, rfl⟩
      | 1, hw => cases hw; exact ⟨rb, u, rfl⟩
    refine (EV.strM1 (VV.str (VV.loc lk_same rfl rfl)) PySem.F.slot_str_startswith PySem.F.type_str_startswith (VV.str (VV.cell (hsp.ext (b10.trans b11).ext) rfl rfl rfl)) (fun B1 t u => gv_startswith) (mc_of (fun _ => rfl) rfl rfl) fun _ => rfl).mono fun B12 y b12 r => ?_
    rw [r, show ("/" : Str) = S [47] from rfl, starts]
  refine XW.nil ?_
  have hL1 := hL1.ext b10.ext
  have hp1 := hp1.ext b10.ext
  have hp2 := hp2.ext b10.ext
  have hcu := hcu.ext b10.ext
  have hsp := hsp.ext b10.ext
  clear htu9 b10
  have hcl3 : closureFor scS (subC c cpFd 194 s).env = Pure.pure [(Str.ofString "curdir", s.heap.objs.size + 1 + 1)] := rfl
  refine XW.assignComp (cl := [(Str.ofString "curdir", s.heap.objs.size + 1 + 1)]) (T := fun B ys => ∃ r1 r2, ys = [.ref r1, .ref r2] ∧ SL B r1 (ra.map S) ∧ SL B r2 (rb.map S)) hh' (VV.loc rfl rfl rfl) (fun B11 v b11 ev => ?_) (fun a2 ys B11 hn2 b11 hf2 hT => ?_) hcl3 (by decide) rfl (by decide) rfl (fun _ => rfl) rfl rfl rfl
  · subst ev
    refine ⟨a1, _, rfl, .inl (hL1.ext b11.ext), two_le, fun i B ys => ∃ rs : List Addr, ys = rs.map .ref ∧ SLs B rs ([ra, rb].take i), fun B2 b2 => ⟨[], rfl, trivial⟩, ?_, ?_⟩
    · rintro i w C Bi B12 m0 own' ys hw bi b12 ⟨rs, rfl, hS⟩
      refine ⟨true, TS.nil, (fun h => nomatch h), fun _ B13 b13 => ?_⟩
      have bb := b11.trans (bi.trans (b12.trans b13))
      obtain ⟨rows, pr, rfl, hp, hr', hz, htk⟩ : ∃ rows pr, w = .ref pr ∧ SL B13 pr ((pcs rows).map S) ∧ (∀ r ∈ rows, Row r ∧ r ≠ [46] ∧ r.length ≤ 100) ∧ rows.length ≤ 90 ∧ ([ra, rb].take (i + 1) = [ra, rb].take i ++ [rows]) := by
        match i, hw with
        | 0, hw => cases hw; exact ⟨ra, p1, rfl, hp1.ext bb.ext, hra', hza, rfl⟩
        | 1, hw => cases hw; exact ⟨rb, p2, rfl, hp2.ext bb.ext, hrb', hzb, rfl⟩
      have hr : ∀ r ∈ rows, Row r ∧ r ≠ [46] := fun r h => ⟨(hr' r h).1, (hr' r h).2.1⟩
      have hcl4 : closureFor scC (cpx (subC c cpFd 194 s) scS [(Str.ofString "curdir", s.heap.objs.size + 1 + 1)] C).env = Pure.pure [(Str.ofString "curdir", s.heap.objs.size + 1 + 1)] := rfl
      have hz1 : ∀ p ∈ pcs rows, p.length ≤ 100 := fun p hp => by
        rcases List.mem_cons.mp hp with rfl | hp
        · exact Nat.zero_le _
        · obtain ⟨r, h, hp⟩ := List.mem_flatMap.mp hp
          rcases List.mem_cons.mp hp with rfl | hp
          · exact Nat.zero_le _
          · rw [List.mem_singleton.mp hp]; exact (hr' r h).2.2
      have hz2 : (pcs rows).length = 1 + 2 * rows.length := by
        have key : ∀ rs : List (List Nat), (rs.flatMap fun r => [[], r]).length = 2 * rs.length := fun rs => by
          induction rs with
          | nil => rfl
          | cons x xs ih => rw [List.flatMap_cons, List.length_append, ih]; simp only [List.length_cons, List.length_nil]; omega
        show ([] :: rows.flatMap fun r => [[], r]).length = _
        rw [List.length_cons, key]; omega
      refine (EV.listComp (c := cpx (subC c cpFd 194 s) scS [(Str.ofString "curdir", s.heap.objs.size + 1 + 1)] C) (scope := scC) (cl := [(Str.ofString "curdir", s.heap.objs.size + 1 + 1)]) (R0 := fun _ v => v = .ref pr) (T := fun B ys => ∃ l' : List (Str × Tok), ys = strValues l' ∧ l'.map (·.1) = rows.map S) hh' (VV.loc lk_same rfl rfl) (fun B14 v b14 ev => ?_) (fun _ _ _ _ h => h) hcl4 (by decide) rfl (by decide) rfl (fun _ => rfl)).mono fun B14 y b14 r => ?_
      · subst ev
        obtain ⟨l', hl', he⟩ := hp.ext b14.ext
        have hll : l'.length = (pcs rows).length := by have := congrArg List.length he; simpa using this
        refine ⟨pr, _, rfl, .inl hl', ?_, fun i B ys => ∃ l2 : List (Str × Tok), ys = strValues l2 ∧ l2.map (·.1) = (((pcs rows).take i).filter fun x => x != [] && x != [46]).map S, fun B2 b2 => ⟨[], rfl, rfl⟩, ?_, ?_⟩
        · show (strValues l').length ≤ sizeLine
          simp only [strValues, List.length_map]; rw [hll, hz2]; unfold sizeLine; omega
        · rintro j w2 C2 Bj B15 m2 own2 ys hw2 bj b15 ⟨l2, rfl, hl2⟩
          rw [strValues, List.getElem?_map] at hw2
          obtain ⟨⟨x, tx⟩, hpx, rfl⟩ := Option.map_eq_some_iff.mp hw2
          have hxe : (l'.map (·.1))[j]? = some x := by rw [List.getElem?_map, hpx]; rfl
          rw [he, List.getElem?_map] at hxe
          obtain ⟨pc, hpc, rfl⟩ := Option.map_eq_some_iff.mp hxe
          have hpl := hz1 pc (List.mem_of_getElem? hpc)
          have htk2 : (pcs rows).take (j + 1) = (pcs rows).take j ++ [pc] := by rw [List.take_add_one, hpc]; rfl
          refine ⟨_, TS.one (TV.and2 (TV.truthS (x := S pc) (VV.str (VV.loc lk_same rfl rfl)) (by rw [S_len]; omega) fun _ => rfl) fun _ => TV.neS' (x := pc) (y := [46]) (VV.str (VV.loc lk_same rfl rfl)) (VV.str (VV.cell (hcu.ext (bb.trans (b14.trans (bj.trans b15))).ext) rfl rfl rfl))), fun hx B16 b16 => ⟨l2, rfl, ?_⟩, fun hx B16 b16 => (VV.loc lk_same rfl rfl).mono fun B17 y b17 ey => ⟨l2 ++ [(S pc, tx)], by rw [ey]; simp [strValues], ?_⟩⟩
          · rw [ne_empty] at hx
            rw [htk2, List.filter_append, hl2, List.filter_cons_of_neg (by
              have : (pc != []) = !pc.isEmpty := by cases pc <;> rfl
              rw [this, hx]; decide), List.filter_nil, List.append_nil]
          · rw [ne_empty] at hx
            rw [htk2, List.filter_append, List.map_append, hl2, List.filter_cons_of_pos (by
              have : (pc != []) = !pc.isEmpty := by cases pc <;> rfl
              rw [this, hx]), List.filter_nil, List.map_append]
            rfl
        · rintro B15 ys b15 ⟨l2, rfl, hl2⟩
          refine ⟨l2, rfl, ?_⟩
          rw [hl2, show (strValues l').length = (pcs rows).length by simp [strValues, hll], List.take_length]
          have := filter_pieces hr
          rw [show pcs rows = [] :: rows.flatMap fun r => [[], r] from rfl, this]
      · obtain ⟨r, ys, rfl, _, hL, l2, rfl, hl2⟩ := r
        refine ⟨rs ++ [r], by simp, ?_⟩
        rw [htk]
        exact SLs.snoc ⟨l2, hL, hl2⟩ (hS.ext (b12.trans (b13.trans b14)).ext)
    · rintro B9 B10 ys b9 ⟨rs, rfl, hS⟩ b10
      obtain ⟨r1, r2, rfl, h1, h2⟩ := SLs.two hS
      exact ⟨r1, r2, rfl, h1.ext b10.ext, h2.ext b10.ext⟩
  obtain ⟨q1, q2, rfl, hq1, hq2⟩ := hT
  refine XW.give hn2 fun B12 b12 hL2 => ?_
  have hL2 : Ls B12 a2 [.ref q1, .ref q2] := hL2
  have hq1 := hq1.ext b12.ext
  have hq2 := hq2.ext b12.ext
  have hsp := hsp.ext (b11.trans b12).ext
  clear hf2 b11 b12 hcu hL1 hp1 hp2
  have hu' : (subC c cpFd 194 s).A.units + 100 < cLine := by show c.A.units + 3 + 100 < 9900; omega
  refine XW.assign ((EV.callB (VV.bl (bl_min _) rfl rfl rfl rfl) (AV.cons (VV.loc rfl rfl rfl) (fun B13 v b13 ev => AV.nil fun B14 b14 => by subst ev; exact gv_min_two hh' hu' (hL2.ext (b13.trans b14).ext) (hq1.ext (b13.trans b14).ext) (hq2.ext (b13.trans b14).ext)) fun _ => rfl) (fun _ => rfl) fun _ => rfl).mono fun B13 v b13 r => ?_) rfl rfl rfl
  obtain ⟨r1, rfl, hs1⟩ := r
  refine XW.assign ((EV.callB (VV.bl (bl_max _) rfl rfl rfl rfl) (AV.cons (VV.loc rfl rfl rfl) (fun B14 v b14 ev => AV.nil fun B15 b15 => by subst ev; exact gv_max_two hh' hu' (hL2.ext (b13.trans (b14.trans b15)).ext) (hq1.ext (b13.trans (b14.trans b15)).ext) (hq2.ext (b13.trans (b14.trans b15)).ext)) fun _ => rfl) (fun _ => rfl) fun _ => rfl).mono fun B14 v b14 r => ?_) rfl rfl rfl
  obtain ⟨r2, rfl, hs2⟩ := r
  have hs1 := hs1.ext b14.ext
  have hsp := hsp.ext (b13.trans b14).ext
  clear hL2 hq1 hq2 b13 b14
  have e1 : (if kS (rb.map S) < kS (ra.map S) then rb.map S else ra.map S) = (if rb < ra then rb else ra).map S := by rw [kS_S, kS_S]; split <;> rfl
  have e2 : (if kS (ra.map S) < kS (rb.map S) then rb.map S else ra.map S) = (if ra < rb then rb else ra).map S := by rw [kS_S, kS_S]; split <;> rfl
  rw [e1] at hs1
  rw [e2] at hs2
  have hle := mm_le ra rb
  rw [← alk_mm ra rb]
  have hm1 : (∀ r ∈ (if rb < ra then rb else ra), r.length ≤ 100) ∧ (if rb < ra then rb else ra).length ≤ 90 := by
    split
    · exact ⟨fun r h => (hrb' r h).2.2, hzb⟩
    · exact ⟨fun r h => (hra' r h).2.2, hza⟩
  have hm2 : (∀ r ∈ (if ra < rb then rb else ra), r.length ≤ 100) ∧ (if ra < rb then rb else ra).length ≤ 90 := by
    split
    · exact ⟨fun r h => (hrb' r h).2.2, hzb⟩
    · exact ⟨fun r h => (hra' r h).2.2, hza⟩
  generalize (if rb < ra then rb else ra) = m1 at hs1 hle hm1
  generalize (if ra < rb then rb else ra) = m2 at hs2 hle hm2
  clear e1 e2
  obtain ⟨hm1, hz1⟩ := hm1
  obtain ⟨hm2, hz2⟩ := hm2
  refine XW.assign ((VV.loc rfl rfl rfl).mono fun B15 v b15 ev => ?_) rfl rfl rfl
  subst ev
  have hs1 := hs1.ext b15.ext
  have hs2 := hs2.ext b15.ext
  have hsp := hsp.ext b15.ext
  clear b15
  obtain ⟨l1, hl1, he1⟩ := hs1
  have hll : l1.length = m1.length := by have := congrArg List.length he1; simpa using this
  have hvl : (strValues l1).length = m1.length := by simp [strValues, hll]
  have hs1 : SL B15 r1 (m1.map S) := ⟨l1, hl1, he1⟩
  refine XW.forM ((EX.callT (VV.bl (bl_enumerate _) rfl rfl rfl rfl) (AV.cons (VV.loc rfl rfl rfl) (fun B16 v b16 ev => AV.nil fun B17 b17 => by subst ev; exact gx_enum (hl1.ext (b16.trans b17).ext)) fun _ => rfl) (fun _ => rfl) fun _ => rfl).mono fun B16 own16 v b16 r => ?_) fun _ => rfl
  obtain ⟨e, it, rfl, rfl⟩ := r
  have hs1 := hs1.ext b16.ext
  have hs2 := hs2.ext b16.ext
  have hsp := hsp.ext b16.ext
  have hl1 := hl1.ext b16.ext
  clear b16
  have fin : ∀ (B17 : Heap) (mm : Lo) (r : Addr) (rows : List (List Nat)), Bs s.heap.objs.size B16 B17 → mm.lookup (Str.ofString "common") = some (.ref r) → mm.lookup (Str.ofString "isabs") = some (.bool true) → SL B17 r (rows.map S) → (∀ r ∈ rows, r.length ≤ 100) → rows.length ≤ 90 → rows = alk m1 m2 →
      XW (subC c cpFd 194 s) B17 mm [] (execs [Stmt.Assign [Expr.Name (Str.ofString "prefix") { line := 232, col := 8, endLine := 232, endCol := 14 }] (Expr.IfExp (Expr.Name (Str.ofString "isabs") { line := 232, col := 24, endLine := 232, endCol := 29 }) (Expr.Name (Str.ofString "sep") { line := 232, col := 17, endLine := 232, endCol := 20 }) (Expr.Subscript (Expr.Name (Str.ofString "sep") { line := 232, col := 35, endLine := 232, endCol := 38 }) (Expr.Slice none (some (Expr.Constant (Const.int 0) 0 { line := 232, col := 40, endLine := 232, endCol := 41 })) none { line := 232, col := 39, endLine := 232, endCol := 41 }) { line := 232, col := 35, endLine := 232, endCol := 42 }) { line := 232, col := 17, endLine := 232, endCol := 42 }) { line := 232, col := 8, endLine := 232, endCol := 42 },
        Stmt.Return (some (Expr.BinOp (Expr.Name (Str.ofString "prefix") { line := 233, col := 15, endLine := 233, endCol := 21 }) Operator.Add (Expr.Call (Expr.Attribute (Expr.Name (Str.ofString "sep") { line := 233, col := 24, endLine := 233, endCol := 27 }) (Str.ofString "join") { line := 233, col := 24, endLine := 233, endCol := 32 }) [Expr.Name (Str.ofString "common") { line := 233, col := 33, endLine := 233, endCol := 39 }] [] { line := 233, col := 24, endLine := 233, endCol := 40 }) { line := 233, col := 15, endLine := 233, endCol := 40 })) { line := 233, col := 8, endLine := 233, endCol := 40 }] (subC c cpFd 194 s).env)
        (seqK (subC c cpFd 194 s) [] fun fl B' _ _ => ∃ t, retv fl = .str (S ([47] ++ List.intercalate [47] (alk m1 m2))) t) := fun B17 mm r rows b17 h1 h2 h3 h4 h5 h6 => by
    refine XW.assign ((EV.ifT (R := fun _ v => v = .str (Str.ofString "/") t4) (TV.ofV (VV.loc h2 rfl rfl) fun _ => rfl) (VV.cell (hsp.ext b17.ext) rfl rfl rfl)).mono fun B18 v b18 ev => ?_) rfl rfl rfl
    subst ev
    have hlen : (List.intercalate [47] rows).length ≤ 10000 := by
      have e1 := inter_len [47] (by decide) rows
      have e2 := flat_len (b := 100) rows h4
      omega
    have h3' := h3.ext b18.ext
    refine XW.ret ((SV.add (x := S [47]) (y := S (List.intercalate [47] rows)) (VV.str (VV.loc lk_same rfl rfl)) (EV.strM (VV.str (VV.cell (hsp.ext (b17.trans b18).ext) rfl rfl rfl)) PySem.F.slot_str_join PySem.F.type_str_join (AV.cons (VV.loc (lk_other h1) rfl rfl) (fun B19 v b19 ev => AV.nil fun B20 b20 t => ?_) fun _ => rfl) (mc_of (fun _ => rfl) rfl rfl) (fun _ => rfl) fun _ => rfl) ?_).mono fun B19 v b19 r => ?_)
    · subst ev
      obtain ⟨l2, hl2, he2⟩ := h3'.ext (b19.trans b20).ext
      have hl2l : l2.length = rows.length := by have := congrArg List.length he2; simpa using this
      refine (gv_join ⟨l2, hl2, he2⟩ (by
        rw [← he2]
        refine joinOk_of (b := 100) (fun p hp => ?_) (by rw [hl2l]; show rows.length * 100 + rows.length * 1 ≤ _; omega)
        have : p.1 ∈ rows.map S := by rw [← he2]; exact List.mem_map_of_mem hp
        obtain ⟨x, hx, e⟩ := List.mem_map.mp this
        rw [← e, S_len]; exact h4 x hx)).mono fun B21 v b21 r => ?_
      rw [show Str.ofString "/" = S [47] from rfl, txt_join] at r
      exact r
    · rw [S_len, S_len]; show 1 + _ ≤ _; unfold sizeLine; omega
    · obtain ⟨t9, rfl⟩ := r
      refine ⟨t9, ?_⟩
      rw [S_app, h6]; rfl
  refine ⟨e, fun i => [(e, isEn it i), (it, isLI r1 i)], m1.length, _, _, fun i B mm own => own = [] ∧ mm.lookup (Str.ofString "s1") = some (.ref r1) ∧ mm.lookup (Str.ofString "s2") = some (.ref r2) ∧ mm.lookup (Str.ofString "common") = some (.ref r1) ∧ mm.lookup (Str.ofString "isabs") = some (.bool true) ∧ m1.take i = m2.take i,
    rfl, rfl, fun s Q E F q => enum_self F q, fun i => by rw [← hvl]; exact NXm.enum hh' hl1 i, ⟨rfl, rfl, rfl, rfl, rfl, rfl⟩, fun i hi => TG.two (W := fun B v1 v2 => (∃ t, v1 = .int (i : Nat) t) ∧ (strValues l1)[i]? = some v2) hh' rfl rfl rfl, ?_, ?_⟩
  · rintro i B17 B18 mm0 mm1 own1 hi b17 b18 ⟨rfl, g1, g2, g3, g4, g5⟩ ⟨v1, v2, ⟨⟨ti, rfl⟩, hv2⟩, rfl⟩
    have hx1 : m1[i]? = some m1[i] := List.getElem?_eq_getElem hi
    have hlt2 : i < m2.length := lt_pre hle g5 hi
    have hx2 : m2[i]? = some m2[i] := List.getElem?_eq_getElem hlt2
    obtain ⟨tc, rfl⟩ : ∃ tc, v2 = .str (S m1[i]) tc := by
      rw [strValues, List.getElem?_map] at hv2
      obtain ⟨⟨x, tx⟩, hpx, rfl⟩ := Option.map_eq_some_iff.mp hv2
      have hxe : (l1.map (·.1))[i]? = some x := by rw [List.getElem?_map, hpx]; rfl
      rw [he1, List.getElem?_map, hx1] at hxe
      cases hxe
      exact ⟨tx, rfl⟩
    have k1 := lk_other (x := Str.ofString "c") (v := .str (S m1[i]) tc) (lk_other (x := Str.ofString "i") (v := .int (i : Nat) ti) g1)
    have k2 := lk_other (x := Str.ofString "c") (v := .str (S m1[i]) tc) (lk_other (x := Str.ofString "i") (v := .int (i : Nat) ti) g2)
    have k3 := lk_other (x := Str.ofString "c") (v := .str (S m1[i]) tc) (lk_other (x := Str.ofString "i") (v := .int (i : Nat) ti) g3)
    have k4 := lk_other (x := Str.ofString "c") (v := .str (S m1[i]) tc) (lk_other (x := Str.ofString "i") (v := .int (i : Nat) ti) g4)
    have k5 : (put (put mm0 (Str.ofString "i") (.int (i : Nat) ti)) (Str.ofString "c") (.str (S m1[i]) tc)).lookup (Str.ofString "i") = some (.int (i : Nat) ti) := lk_other lk_same
    have k6 : (put (put mm0 (Str.ofString "i") (.int (i : Nat) ti)) (Str.ofString "c") (.str (S m1[i]) tc)).lookup (Str.ofString "c") = some (.str (S m1[i]) tc) := lk_same
    generalize put (put mm0 (Str.ofString "i") (.int (i : Nat) ti)) (Str.ofString "c") (.str (S m1[i]) tc) = mm1 at k1 k2 k3 k4 k5 k6
    have bb := b17.trans b18
    refine XW.ite (TV.neS' (x := m1[i]) (y := m2[i]) (VV.str (VV.loc k6 rfl rfl)) (SV.item (VV.loc k2 rfl rfl) (hs2.ext bb.ext) (VV.int (VV.loc k5 rfl rfl)) (by omega) (by omega) (by rw [Int.toNat_natCast, List.getElem?_map, hx2]; rfl) fun _ _ => rfl)) (fun hx B19 b19 => ?_) fun hx B19 b19 => ?_
    · refine XW.assign ((EV.sliceSL (ys := (m1.take i).map S) (VV.loc k1 rfl rfl) (hs1.ext (bb.trans b19).ext) PV.none (PV.some (VV.int (VV.loc k5 rfl rfl))) (by simp; unfold sizeLine; omega) (fun l el => ⟨_, pick_upto, by rw [List.map_take, el, List.map_take]⟩) fun _ _ => rfl).mono fun B20 v b20 r => ?_) rfl rfl rfl
      obtain ⟨r, rfl, _, hr⟩ := r
      refine XW.brk ⟨[], rfl, ?_⟩
      refine fin B20 _ r (m1.take i) (bb.trans (b19.trans b20)) lk_same (lk_other k4) hr (fun r h => hm1 r (List.mem_of_mem_take h)) (by simp; omega) ?_
      rw [alk_at m1 m2 i g5 (by omega) (by omega) fun x y h1 h2 e => ?_]
      rw [hx1] at h1
      rw [hx2] at h2
      cases h1
      cases h2
      rw [e] at hx
      simp at hx
    · refine XW.nil (XW.nil ⟨[], rfl, rfl, k1, k2, k3, k4, ?_⟩)
      have : m1[i] = m2[i] := by simpa using hx
      rw [List.take_add_one, List.take_add_one, g5, hx1, hx2, this]
  · rintro B17 B18 mm own1 b17 ⟨rfl, g1, g2, g3, g4, g5⟩ b18
    refine fin B18 mm r1 m1 (b17.trans b18) g3 g4 (hs1.ext (b17.trans b18).ext) hm1 hz1 ?_
    have hle2 : m1.length ≤ m2.length := by
      have := congrArg List.length g5
      simp at this; omega
    rw [alk_at m1 m2 m1.length g5 (Nat.le_refl _) hle2 fun x y h1 h2 e => by simp at h1]
    rw [List.take_length]
end
end Mine

end
section
open PySem PySem.W PyProof.Rows
set_option Elab.async false
set_option autoImplicit false
set_option linter.unusedVariables false
set_option maxRecDepth 100000
namespace Mine
/-! data: lists of texts and lists of lists of texts, compared -/
noncomputable def dS (x : List Nat) : PyData := .str (S x)
noncomputable def dL (xs : List (List Nat)) : PyData := .list (xs.map dS)
noncomputable def dP (ps : List (List (List Nat))) : PyData := .list (ps.map dL)
noncomputable def okX (x : List Nat) : Prop := ∀ ch ∈ x, ch < 1114112
theorem readsStrs (h : Heap) : ∀ (l : List (Str × Tok)), ReadsAll h (strValues l) (l.map fun p => PyData.str p.1) []
  | [] => .nil
  | p :: l => ReadsAll.cons (as := []) (bs := []) (.str p.1 p.2) (readsStrs h l)
theorem SL.reads {h : Heap} {a : Addr} {xs : List (List Nat)} (x : SL h a (xs.map S)) : ∃ as, Reads h (.ref a) (dL xs) as := by
  obtain ⟨l, ⟨o, ho, n, rfl⟩, e⟩ := x
  refine ⟨_, Reads.list (as := []) ho rfl rfl (xs := xs.map dS) ?_⟩
  have := readsStrs h l
  have e2 : (l.map fun p => PyData.str p.1) = xs.map dS := by
    have : (l.map fun p => PyData.str p.1) = (l.map (·.1)).map PyData.str := by simp
    rw [this, e]; simp [dS]
  rw [e2] at this
  simpa using this
theorem readsRefs {h : Heap} : ∀ {rs : List Addr} {ps : List (List (List Nat))}, SLs h rs ps → ∃ as, ReadsAll h (rs.map .ref) (ps.map dL) as
  | [], [], _ => ⟨[], .nil⟩
  | r :: rs, p :: ps, x => by
    obtain ⟨h1, h2⟩ := (show SL h r (p.map S) ∧ SLs h rs ps from x)
    obtain ⟨as, r1⟩ := h1.reads
    obtain ⟨bs, r2⟩ := readsRefs h2
    exact ⟨_, .cons r1 r2⟩
  | [], p :: ps, x => (show False from x).elim
  | r :: rs, [], x => (show False from x).elim
theorem PL.reads {h : Heap} {a : Addr} {ps : List (List (List Nat))} (x : PL h a ps) : ∃ as, Reads h (.ref a) (dP ps) as := by
  obtain ⟨rs, ⟨o, ho, n, rfl⟩, hS⟩ := x
  obtain ⟨as, r⟩ := readsRefs hS
  exact ⟨_, .list ho rfl rfl (by simpa using r)⟩
theorem eqv_dS (x y : List Nat) : PyData.eqv (dS x) (dS y) = (x == y) := by
  show PyData.eqv (.str (S x)) (.str (S y)) = _
  rw [PyData.eqv, S_beq]
theorem eqvAll_dS : ∀ xs ys : List (List Nat), PyData.eqvAll (xs.map dS) (ys.map dS) = (xs == ys)
  | [], [] => by simp [PyData.eqvAll]
  | [], _ :: _ => by simp [PyData.eqvAll]
  | _ :: _, [] => by simp [PyData.eqvAll]
  | x :: xs, y :: ys => by simp only [List.map_cons, PyData.eqvAll, eqv_dS, eqvAll_dS xs ys]; rfl
theorem eqv_dL (xs ys : List (List Nat)) : PyData.eqv (dL xs) (dL ys) = (xs == ys) := by
  show PyData.eqv (.list _) (.list _) = _
  rw [PyData.eqv, eqvAll_dS]
theorem eqvAll_dL : ∀ xs ys : List (List (List Nat)), PyData.eqvAll (xs.map dL) (ys.map dL) = (xs == ys)
  | [], [] => by simp [PyData.eqvAll]
  | [], _ :: _ => by simp [PyData.eqvAll]
  | _ :: _, [] => by simp [PyData.eqvAll]
  | x :: xs, y :: ys => by simp only [List.map_cons, PyData.eqvAll, eqv_dL, eqvAll_dL xs ys]; rfl
theorem eqv_dP (xs ys : List (List (List Nat))) : PyData.eqv (dP xs) (dP ys) = (xs == ys) := by
  show PyData.eqv (.list _) (.list _) = _
  rw [PyData.eqv, eqvAll_dL]
theorem can_dS : ∀ {xs : List (List Nat)}, (∀ x ∈ xs, okX x) → PyData.canLayAll0 (xs.map dS) = true
  | [], _ => rfl
  | x :: xs, h => by
    have h1 : PyData.strOk (S x) = true := by
      show Array.all x.toArray (· < 0x110000) = true
      rw [List.all_toArray, List.all_eq_true]
      exact fun ch hch => decide_eq_true (h x (by simp) ch hch)
    simp only [List.map_cons, PyData.canLayAll0, dS, PyData.canLay0, h1, Bool.true_and]
    exact can_dS fun y hy => h y (by simp [hy])
theorem dep_dS : ∀ xs : List (List Nat), PyData.depthAll (xs.map dS) = 0
  | [] => rfl
  | x :: xs => by simp [PyData.depthAll, dS, PyData.depth, dep_dS xs]
theorem sh_dL {xs : List (List Nat)} (h : ∀ x ∈ xs, okX x) : SeqAt.shaped (dL xs) = true := by
  unfold dL
  simp [SeqAt.shaped, PyData.canLay0, PyData.depth, can_dS h, dep_dS]
theorem can_dL : ∀ {ps : List (List (List Nat))}, (∀ p ∈ ps, ∀ x ∈ p, okX x) → PyData.canLayAll0 (ps.map dL) = true
  | [], _ => rfl
  | p :: ps, h => by
    simp only [List.map_cons, PyData.canLayAll0, dL, PyData.canLay0, can_dS (h p (by simp)), Bool.true_and]
    exact can_dL fun y hy => h y (by simp [hy])
theorem dep_dL : ∀ ps : List (List (List Nat)), PyData.depthAll (ps.map dL) ≤ 1
  | [] => Nat.zero_le _
  | x :: xs => by
    have := dep_dL xs
    simp [PyData.depthAll, dL, PyData.depth, dep_dS]
    exact Nat.max_le.mpr ⟨Nat.le_refl _, this⟩
theorem sh_dP {ps : List (List (List Nat))} (h : ∀ p ∈ ps, ∀ x ∈ p, okX x) : SeqAt.shaped (dP ps) = true := by
  unfold dP
  have := dep_dL ps
  simp [SeqAt.shaped, PyData.canLay0, PyData.depth, can_dL h]
  omega
section
variable {c : Cx} {B : Heap} {m : Lo} {own : Ow}
theorem gv_ne_SL {a b : Addr} {xs ys : List (List Nat)} (hu : c.A.units + 100 < cLine) (ha : SL B a (xs.map S)) (hb : SL B b (ys.map S)) (hx : ∀ x ∈ xs, okX x) (hy : ∀ x ∈ ys, okX x) : GV c B m own (compareOp .NotEq (.ref a) (.ref b)) fun _ v => v = .bool (xs != ys) :=
  GV.still fun s Q E F q => by
    obtain ⟨as, r1⟩ := (ha.ext F.frz).reads
    obtain ⟨bs, r2⟩ := (hb.ext F.frz).reads
    refine ne_dataH r1 r2 (sh_dL hx) (sh_dL hy) (by omega) ?_
    rw [eqv_dL]
    exact q _ s.toks s.drawn rfl
theorem gv_eq_SL {a b : Addr} {xs ys : List (List Nat)} (hu : c.A.units + 100 < cLine) (ha : SL B a (xs.map S)) (hb : SL B b (ys.map S)) (hx : ∀ x ∈ xs, okX x) (hy : ∀ x ∈ ys, okX x) : GV c B m own (compareOp .Eq (.ref a) (.ref b)) fun _ v => v = .bool (xs == ys) :=
  GV.still fun s Q E F q => by
    obtain ⟨as, r1⟩ := (ha.ext F.frz).reads
    obtain ⟨bs, r2⟩ := (hb.ext F.frz).reads
    refine eq_dataH r1 r2 (sh_dL hx) (sh_dL hy) (by omega) ?_
    rw [eqv_dL]
    exact q _ s.toks s.drawn rfl
theorem gv_ne_PL {a b : Addr} {xs ys : List (List (List Nat))} (hu : c.A.units + 100 < cLine) (ha : PL B a xs) (hb : PL B b ys) (hx : ∀ p ∈ xs, ∀ x ∈ p, okX x) (hy : ∀ p ∈ ys, ∀ x ∈ p, okX x) : GV c B m own (compareOp .NotEq (.ref a) (.ref b)) fun _ v => v = .bool (xs != ys) :=
  GV.still fun s Q E F q => by
    have ext : ∀ {a ps}, PL B a ps → PL s.heap a ps := fun ⟨rs, h1, h2⟩ => ⟨rs, h1.ext F.frz, h2.ext F.frz⟩
    obtain ⟨as, r1⟩ := (ext ha).reads
    obtain ⟨bs, r2⟩ := (ext hb).reads
    refine ne_dataH r1 r2 (sh_dP hx) (sh_dP hy) (by omega) ?_
    rw [eqv_dP]
    exact q _ s.toks s.drawn rfl
/-- not in an own list of lists of texts -/
theorem gv_notIn {a b : Addr} {rs : List Addr} {ps : List (List (List Nat))} {xs : List (List Nat)} (hu : c.A.units + 100 < cLine) (ha : SL B a (xs.map S)) (hb : (b, isL (rs.map .ref)) ∈ own) (hS : SLs B rs ps) (hx : ∀ x ∈ xs, okX x) (hp : ∀ p ∈ ps, ∀ x ∈ p, okX x) :
    GV c B m own (compareOp .NotIn (.ref a) (.ref b)) fun _ v => v = .bool (!ps.contains xs) :=
  GV.still fun s Q E F q => by
    obtain ⟨as, r1⟩ := (ha.ext F.frz).reads
    have hl : PL s.heap b ps := ⟨rs, F.ow _ hb, hS.ext F.frz⟩
    obtain ⟨bs, r2⟩ := hl.reads
    refine PySem.SeqAt.notIn_list_reads r2 r1 (can_dL hp) (SeqAt.canLay_of_shaped (sh_dL hx)) ?_ ?_
    · have h1 := dep_dL ps
      have h2 := Nat.min_le_left (PyData.depthAll (ps.map dL)) (dL xs).depth
      omega
    · have : ((ps.map dL).any fun y => PyData.eqv y (dL xs)) = ps.contains xs := by
        rw [List.any_map]
        rw [Bool.eq_iff_iff]
        simp only [List.any_eq_true, Function.comp, eqv_dL, List.contains_iff_mem, beq_iff_eq]
        exact ⟨fun ⟨y, hy, e⟩ => e ▸ hy, fun h => ⟨xs, h, rfl⟩⟩
      rw [this]
      exact q _ s.toks s.drawn rfl
theorem gv_sum {l : Addr} {xs : List Int} (hh : c.A.handled = none) (hl : IL B l xs) : GV c B m own (call (.builtin "sum") [.ref l]) fun _ v => ∃ t, v = .int xs.sum t :=
  ⟨fun s Q E F q => by
    obtain ⟨il, hL, rfl⟩ := hl
    have hl' : s.heap.IsList l (intItems il.toArray) := by
      have := (hL.ext F.frz).list
      simpa [intItems] using this
    refine wpAny_with_toks F.tk (sum_intListG hh hl' fun h' tk t' hk ht => ?_)
    have F2 : Fm c B m own { s with heap := h', toks := tk } := by
      have hns := F.ns.keeps hk
      exact ⟨F.gg, F.gx, F.gn, fun b o h e => hk _ _ (F.keep b o h e), Nat.le_trans F.lL (Nat.le_of_lt hns.lt), fun b o e => hk _ _ (F.frz _ _ e), hns, fun p hp => let ⟨o, ho, q⟩ := F.ow p hp; ⟨o, hk _ _ ho, q⟩, F.bL, F.lL, F.bown, F.nd, F.gens, F.os, ht⟩
    refine q _ _ B (Bs.refl _ _) F2 ⟨t', ?_⟩
    congr 1
    rw [preSum_eq, List.take_of_length_le (by simp)]⟩
theorem EV.dictNew {pos : Pos} : EV c B m own (.Dict [] [] pos) fun B1 v => ∃ a o, v = .ref a ∧ B.get? a = none ∧ B1.get? a = some o ∧ isD c.w [] o :=
  ⟨fun B' b => ⟨fun s Q E F q => by
    with_reducible refine wpAny_Dict_empty ?_
    have g : Grow s { s with heap := s.heap.push { cls := .type "dict", data := .dict #[] } } := ⟨fun b o e => Heap.get?_push_of_some _ e, by simp, rfl, rfl⟩
    obtain ⟨b1, F1⟩ := F.grow g F.tk
    exact q _ _ _ (b1.low F.size) F1 ⟨_, _, rfl, bs_none b F.fresh, grown_new (Heap.get?_push_size _ rfl) (Nat.le_refl _), #[], 0, ⟨rfl, rfl, rfl⟩, rfl, fun _ he => by simp at he, Pairs.nil, List.nodup_nil⟩⟩⟩
end
end Mine

end
section
open PySem PySem.W PyProof.Rows
set_option Elab.async false
set_option autoImplicit false
set_option linter.unusedVariables false
set_option maxRecDepth 100000
namespace Mine
/-! zip of two lists -/
noncomputable def isZp (TI TO : Addr) (o : Obj) : Prop := o = { cls := .type "zip", dict := none, data := .fields #[.none, .bool false, .bool false, .ref TI, .ref TO], slots := #[] }
noncomputable def isPr (o : Obj) : Prop := ∃ a b, o = { cls := .type "tuple", data := .seq #[a, b] }
section
variable {c : Cx} {B : Heap} {m : Lo} {own : Ow}
theorem gx_zip {l1 l2 : Addr} {xs ys : List Value} (h1 : Ls B l1 xs) (h2 : Ls B l2 ys) : GX c B m own (call (.type "zip") [.ref l1, .ref l2]) fun B' own' v => ∃ z TI TO i1 i2, v = .ref z ∧ own' = (z, isZp TI TO) :: (TO, isPr) :: (i1, isLI l1 0) :: (i2, isLI l2 0) :: own ∧ PySem.IsPair B' TI (.ref i1) (.ref i2) :=
  ⟨fun s Q E F q => by
    refine PySem.call_zip_2 (h1.ext F.frz).list (h2.ext F.frz).list fun h' hz hTI hTO g1 g2 hsz hk => ?_
    have g : Grow s { s with heap := h' } := ⟨hk, by show _ ≤ h'.objs.size; omega, rfl, rfl⟩
    obtain ⟨b1, F1⟩ := F.grow g F.tk
    have bl := b1.low F.size
    obtain ⟨o1, ho1, hc1, hd1⟩ := g1
    obtain ⟨o2, ho2, hc2, hd2⟩ := g2
    have fr : ∀ k, B.get? (s.heap.objs.size + k) = none := fun k => by
      cases q : B.get? (s.heap.objs.size + k) with
      | none => rfl
      | some o => exact absurd (Heap.lt_size (F.frz _ _ q)) (Nat.not_lt.mpr (Nat.le_add_right _ _))
    have F2 := F1.take bl (P := isLI l2 0) (fr 1) (grown_new ho2 (Nat.le_add_right _ _)) ⟨hc2, hd2⟩
    have b2 := less_bs bl (fr 1)
    have F3 := F2.take b2 (P := isLI l1 0) F.fresh (by rw [less_get (show s.heap.objs.size ≠ s.heap.objs.size + 1 by omega)]; exact grown_new ho1 (Nat.le_refl _)) ⟨hc1, hd1⟩
    have b3 := less_bs b2 F.fresh
    have F4 := F3.take b3 (P := isPr) (fr 3) (by rw [less_get (show s.heap.objs.size + 3 ≠ s.heap.objs.size by omega), less_get (show s.heap.objs.size + 3 ≠ s.heap.objs.size + 1 by omega)]; exact grown_new hTO (Nat.le_add_right _ _)) ⟨_, _, rfl⟩
    have b4 := less_bs b3 (fr 3)
    have F5 := F4.take b4 (P := isZp (s.heap.objs.size + 2) (s.heap.objs.size + 3)) (fr 4) (by rw [less_get (show s.heap.objs.size + 4 ≠ s.heap.objs.size + 3 by omega), less_get (show s.heap.objs.size + 4 ≠ s.heap.objs.size by omega), less_get (show s.heap.objs.size + 4 ≠ s.heap.objs.size + 1 by omega)]; exact grown_new hz (Nat.le_add_right _ _)) rfl
    refine q _ _ _ _ (less_bs b4 (fr 4)) F5 ⟨_, _, _, _, _, rfl, rfl, ?_⟩
    show Heap.get? _ _ = _
    rw [less_get (show s.heap.objs.size + 2 ≠ s.heap.objs.size + 4 by omega), less_get (show s.heap.objs.size + 2 ≠ s.heap.objs.size + 3 by omega), less_get (show s.heap.objs.size + 2 ≠ s.heap.objs.size by omega), less_get (show s.heap.objs.size + 2 ≠ s.heap.objs.size + 1 by omega)]
    exact grown_new hTI (Nat.le_add_right _ _)⟩
theorem zip_apart {TI TO z i1 i2 l1 l2 : Addr} {xs ys : List Value} {s : Shared} {i : Nat} (hTI : PySem.IsPair B TI (.ref i1) (.ref i2)) (h1 : Ls B l1 xs) (h2 : Ls B l2 ys) (F : Fm c B m ((z, isZp TI TO) :: (TO, isPr) :: (i1, isLI l1 i) :: (i2, isLI l2 i) :: own) s) : PySem.ZipApart z TI TO i1 i2 l1 l2 := by
  have nd := F.nd
  simp only [List.map_cons, List.nodup_cons, List.mem_cons, not_or] at nd
  have n1 := (F.bown (z, isZp TI TO) (by simp)).1
  have n2 := (F.bown (TO, isPr) (by simp)).1
  have n3 := (F.bown (i1, isLI l1 i) (by simp)).1
  have n4 := (F.bown (i2, isLI l2 i) (by simp)).1
  obtain ⟨o1, ho1, _⟩ := h1
  obtain ⟨o2, ho2, _⟩ := h2
  have ne : ∀ {a b : Addr} {o : Obj}, B.get? a = some o → B.get? b = none → a ≠ b := fun h k e => by rw [e, k] at h; cases h
  have hTI' : B.get? TI = some _ := hTI
  exact ⟨ne hTI' n1, (fun e => nd.1.1 e.symm), (fun e => nd.1.2.1 e.symm), (fun e => nd.1.2.2.1 e.symm), ne hTI' n2, ne hTI' n3, ne hTI' n4, nd.2.1.1, nd.2.1.2.1, nd.2.2.1.1, ne ho1 n1, ne ho1 n2, ne ho1 n3, ne ho1 n4, ne ho2 n1, ne ho2 n2, ne ho2 n3, ne ho2 n4⟩
theorem NXm.zip {B0 : Heap} {z TI TO i1 i2 l1 l2 : Addr} {xs ys : List Value} {elts : List Expr} {k : Nat} {tp : Pos} (hh : c.A.handled = none) (hTI : PySem.IsPair B0 TI (.ref i1) (.ref i2)) (hx : Ls B0 l1 xs) (hy : Ls B0 l2 ys) (he : xs.length = ys.length) (i : Nat) :
    NXm c B0 z (fun i => [(z, isZp TI TO), (TO, isPr), (i1, isLI l1 i), (i2, isLI l2 i)]) i (decide (i < xs.length)) (.Tuple elts k tp) fun B v => ∃ a v1 v2, v = .ref a ∧ Tu B a [v1, v2] ∧ xs[i]? = some v1 ∧ ys[i]? = some v2 :=
  ⟨fun B m own s Q E b F h1 h2 => by
    have hTI1 : PySem.IsPair B TI (.ref i1) (.ref i2) := b.ext _ _ hTI
    have hx := hx.ext b.ext
    have hy := hy.ext b.ext
    have D := zip_apart hTI1 hx hy F
    obtain ⟨oz, hoz, rfl⟩ := F.ow (z, isZp TI TO) (by simp)
    obtain ⟨oT, hoT, a, b', rfl⟩ := F.ow (TO, isPr) (by simp)
    obtain ⟨o1, ho1, hc1, hd1⟩ := F.ow (i1, isLI l1 i) (by simp)
    obtain ⟨o2, ho2, hc2, hd2⟩ := F.ow (i2, isLI l2 i) (by simp)
    have k1 : s.heap.IsListIter i1 l1 i := ⟨o1, ho1, hc1, hd1⟩
    have k2 : s.heap.IsListIter i2 l2 i := ⟨o2, ho2, hc2, hd2⟩
    have lx := (hx.ext F.frz).list
    have ly := (hy.ext F.frz).list
    have hTIs : PySem.IsPair s.heap TI (.ref i1) (.ref i2) := F.frz _ _ hTI1
    by_cases hi : i < xs.length
    · have hxi : xs.toArray[i]? = some xs[i] := by simp [hi]
      have hi2 : i < ys.length := by omega
      have hyi : ys.toArray[i]? = some ys[i] := by simp [hi2]
      refine PySem.wpAny_pyNext_zip_item D hoz hTIs hoT k1 k2 lx ly hxi hyi fun h' hz hTO g1 g2 hT hsz hk => h1 (decide_eq_true hi) _ _ fun Q' E' q' => ?_
      obtain ⟨o3, ho3, hc3, hd3⟩ := g1
      obtain ⟨o4, ho4, hc4, hd4⟩ := g2
      obtain ⟨B', bb, hnew, F'⟩ := F.multi (T' := [(z, fun o => o = { cls := .type "zip", dict := none, data := .fields #[rawInt s.heap.objs.size, .bool false, .bool false, .ref TI, .ref TO], slots := #[] }), (TO, isPr), (i1, isLI l1 (i + 1)), (i2, isLI l2 (i + 1))]) (h' := h') (k := s.toks) (d := s.drawn)
        (fun b o hb e => hk b o (fun q => hb (by simp [q])) (fun q => hb (by simp [q])) (fun q => hb (by simp [q])) (fun q => hb (by simp [q])) e)
        (fun p hp => by
          simp only [List.mem_cons, List.not_mem_nil, or_false] at hp
          rcases hp with rfl | rfl | rfl | rfl
          · exact ⟨_, hz, rfl⟩
          · exact ⟨_, hTO, _, _, rfl⟩
          · exact ⟨_, ho3, hc3, hd3⟩
          · exact ⟨_, ho4, hc4, hd4⟩) (List.Sublist.refl _) (Nat.le_refl _)
      refine PySem.wpAny_letOwnedTupleGo_zip hz fun h3 hz3 hs3 => ?_
      have F3 : Fm c B' m ((z, isZp TI TO) :: (TO, isPr) :: (i1, isLI l1 (i + 1)) :: (i2, isLI l2 (i + 1)) :: own) { s with heap := h3 } := Fm.step F' hs3 hz3 rfl rfl rfl (Nat.le_refl _)
      exact q' _ B' (bb.low F.size) ⟨_, _, _, rfl, hnew _ _ (Nat.le_refl _) hT, by simp [hi], by simp [hi2]⟩ F3
    · have hend : xs.toArray[i]? = none ∨ ys.toArray[i]? = none := .inl (by simp; omega)
      refine PySem.wpAny_pyNext_zip_end hh D hoz hTIs hoT k1 k2 lx ly hend fun h' hk => ?_
      obtain ⟨B', bb, _, F'⟩ := F.multi (T' := []) (h' := h') (k := s.toks) (d := s.drawn) (fun b o hb e => hk b o (fun q => hb (by simp [q])) (fun q => hb (by simp [q])) (fun q => hb (by simp [q])) (fun q => hb (by simp [q])) e) (fun p hp => absurd hp List.not_mem_nil) (List.nil_sublist _) (Nat.le_refl _)
      exact h2 (decide_eq_false hi) _ B' (bb.low F.size) F'⟩
theorem zip_self {z TI TO : Addr} {T : Ow} {s : Shared} {Q : Value → Shared → Prop} {E : Value → Shared → Prop} (F : Fm c B m ((z, isZp TI TO) :: T) s) (h : Q (.ref z) s) : wpAny (Md c.w) c.A (pyIter (.ref z)) Q E s := by
  obtain ⟨o1, ho1, rfl⟩ := F.ow (z, isZp TI TO) (.head _)
  exact PySem.wpAny_pyIter_zip ho1 h
end
/-! two generators -/
theorem compTurn_two0 (elt t1 it1 t2 it2 : Expr) (scope : Scope) (pos : Pos) (it acc : Value) (env : Env) :
    compTurn (.ListComp elt [⟨t1, it1, [], 0⟩, ⟨t2, it2, [], 0⟩] scope pos) 0 it acc env = (standAt it1.pos >>= fun _ => pyNext it >>= fun r => match r with
      | none => Pure.pure (.done .next)
      | some v => letOwnedTupleGo t1 it v >>= fun _ => assign t1 env v >>= fun _ =>
        (eval it2 env >>= fun x => standAt it2.pos >>= fun _ => foldedSetIterable it2 env x >>= fun x => holding [x] (pyIter x) >>= fun i => runOwn (.compStart (.ListComp elt [⟨t1, it1, [], 0⟩, ⟨t2, it2, [], 0⟩] scope pos) 1 i acc env) env >>= fun _ =>
          again (.compLoop (.ListComp elt [⟨t1, it1, [], 0⟩, ⟨t2, it2, [], 0⟩] scope pos) 0 it acc env))) := by rfl
theorem compTurn_two1 (elt t1 it1 t2 it2 : Expr) (scope : Scope) (pos : Pos) (it acc : Value) (env : Env) :
    compTurn (.ListComp elt [⟨t1, it1, [], 0⟩, ⟨t2, it2, [], 0⟩] scope pos) 1 it acc env = (standAt it2.pos >>= fun _ => pyNext it >>= fun r => match r with
      | none => Pure.pure (.done .next)
      | some v => letOwnedTupleGo t2 it v >>= fun _ => assign t2 env v >>= fun _ =>
        (eval elt env >>= fun x => call (.builtin "list.append") [acc, x] >>= fun _ => Pure.pure ()) >>= fun _ =>
          again (.compLoop (.ListComp elt [⟨t1, it1, [], 0⟩, ⟨t2, it2, [], 0⟩] scope pos) 1 it acc env)) := by rfl
end Mine

end
section
open PySem PySem.W PyProof.Rows
set_option Elab.async false
set_option autoImplicit false
set_option linter.unusedVariables false
set_option maxRecDepth 100000
namespace Mine
section
variable {prog : Program} {w : World} {A : Around} {E : Value → Shared → Prop} {s : Shared} {R : Result → Shared → Prop}
theorem codeAny_compStart1 {elt t1 it1 t2 it2 : Expr} {scope : Scope} {pos : Pos} {it acc : Value} {env : Env}
    (h0 : codeAny (model prog w) A (.compLoop (.ListComp elt [⟨t1, it1, [], 0⟩, ⟨t2, it2, [], 0⟩] scope pos) 1 it acc env) R s)
    (h : wpAny (model prog w) A (pyIter it) (fun it' s' => codeAny (model prog w) A (.compLoop (.ListComp elt [⟨t1, it1, [], 0⟩, ⟨t2, it2, [], 0⟩] scope pos) 1 it' acc env) R s')
      (notedBy (model prog w) A env fun x s' => R (.error x) s') s) :
    codeAny (model prog w) A (.compStart (.ListComp elt [⟨t1, it1, [], 0⟩, ⟨t2, it2, [], 0⟩] scope pos) 1 it acc env) R s := by
  refine codeAny_of_tree ?_
  show wpAny _ _ ((compStart (.ListComp elt [⟨t1, it1, [], 0⟩, ⟨t2, it2, [], 0⟩] scope pos) 1 it acc env).onRaise (fun x => do noteFrame x env; standAt theWindowsPlace)) _ _ s
  refine wpAny_notedAt ?_
  unfold compStart
  show wpAny _ _ (ask >>= _) _ _ s
  refine wpAny_bind (wpAny_askSetting (wpAny_ite ?_))
  split
  · first
      | exact wpAny_bind (wpAny_pure (wpAny_pure (And.intro rfl h0)))
      | exact wpAny_pure (And.intro rfl h0)
  · first
      | exact wpAny_bind (wpAny_rule (wpAny_bind (wpAny_standAt (wpAny_bind (wpAny_mono h (fun it' s' h' => wpAny_pure (And.intro rfl h')) fun _ _ x => x)))))
      | (refine wpAny_bind (wpAny_rule ?_); show wpAny _ _ (standAt it2.pos >>= _) _ _ s; exact wpAny_bind (wpAny_standAt (wpAny_bind (wpAny_mono h (fun it' s' h' => wpAny_pure (And.intro rfl h')) fun _ _ x => x))))
end
section
variable {c : Cx} {B : Heap} {m : Lo} {own : Ow}
theorem comp_inner {elt t1 it1 it2 : Expr} {y : Str} {py pos : Pos} {scope : Scope} {cl : List (Str × Addr)} {C i2 acc a : Addr} {ys ws : List Value} {p : Addr × (Obj → Prop)} {Y : Ow} {B5 : Heap} {m5 : Lo} {s5 : Shared} {R : Result → Shared → Prop} (hh : c.A.handled = none)
    (helt : ∀ B m own u, EV (cpx c scope cl C) B (put m y u) own elt fun _ v => v = u) (hkind : scope.kind = .function) (hy : scope.names.lookup y = some .local) (hz : ys.length + ws.length ≤ sizeLine)
    (F5 : Fm (cpx c scope cl C) B5 m5 ((i2, isLI a 0) :: p :: (acc, isL ys) :: Y) s5) (hL : Ls B5 a ws) (hR : ∀ s' B' m', Bs c.n B5 B' → Fm (cpx c scope cl C) B' m' (p :: (acc, isL (ys ++ ws)) :: Y) s' → R (.ok .next) s') :
    codeAny (Md c.w) c.A (.compStart (.ListComp elt [⟨t1, it1, [], 0⟩, ⟨.Name y py, it2, [], 0⟩] scope pos) 1 (.ref i2) (.ref acc) (compEnvC scope cl C c.env)) R s5 := by
  have loop : codeAny (Md c.w) c.A (.compLoop (.ListComp elt [⟨t1, it1, [], 0⟩, ⟨.Name y py, it2, [], 0⟩] scope pos) 1 (.ref i2) (.ref acc) (compEnvC scope cl C c.env)) R s5 := by
    refine codeAny_loop rfl (fun n s => ∃ j Bj mj, n + j = ws.length ∧ Bs c.n B5 Bj ∧ Fm (cpx c scope cl C) Bj mj ((i2, isLI a j) :: p :: (acc, isL (ys ++ ws.take j)) :: Y) s) (fun n s hI => ?_) ws.length ⟨0, B5, m5, rfl, Bs.refl _ _, by simpa using F5⟩
    obtain ⟨j, Bj, mj, hnj, bj, Fj⟩ := hI
    show wpAny _ c.A ((compTurn (.ListComp elt [⟨t1, it1, [], 0⟩, ⟨.Name y py, it2, [], 0⟩] scope pos) 1 (.ref i2) (.ref acc) (compEnvC scope cl C c.env)).onRaise (fun x => do noteFrame x (compEnvC scope cl C c.env); theTreesLotGoes x)) _ _ s
    refine wpAny_noted ?_
    rw [compTurn_two1]
    refine wpAny_bind (wpAny_standAt (wpAny_bind ?_))
    by_cases hlt : j < ws.length
    · have hw : ws[j]? = some ws[j] := List.getElem?_eq_getElem hlt
      refine next_item (c := cpx c scope cl C) (hL.ext bj.ext) hw Fj fun s' F' => ?_
      show wpAny _ c.A (letOwnedTupleGo (.Name y py) (.ref i2) ws[j] >>= _) _ _ _
      refine wpAny_bind (wpAny_pure ?_)
      refine wpAny_bind (wpAny_assign_Name ?_)
      refine GV.sto (c := cpx c scope cl C) (K := fun _ _ => True) (lookup_relabel_local hy) hkind s' _ _ F' fun s2 F2 => ?_
      refine wpAny_bind (wpAny_bind (((helt Bj mj _ ws[j]).run Bj (Bs.refl _ _)).run s2 _ _ F2 fun v s3 B3 b3 F3 r3 => ?_))
      subst r3
      refine wpAny_bind ((gx_append (c := cpx c scope cl C) (pre := [(i2, isLI a (j + 1)), p]) (post := Y) (by simp; omega)).run s3 _ _ F3 fun _ s4 B4 own4 b4 F4 r4 => ?_)
      obtain ⟨rfl, rfl, _⟩ := r4
      have e : ys ++ ws.take (j + 1) = ys ++ ws.take j ++ [ws[j]] := by rw [List.take_add_one, hw]; simp
      exact wpAny_pure (wpAny_pure ⟨rfl, n - 1, by omega, j + 1, B4, put mj y ws[j], by omega, bj.trans b3, by rw [e]; exact F4⟩)
    · have hj : j = ws.length := by omega
      subst hj
      refine next_end (c := cpx c scope cl C) hh (hL.ext bj.ext) (by simp) Fj fun s' F' => ?_
      rw [List.take_length] at F'
      exact wpAny_pure (hR s' Bj mj bj F')
  exact codeAny_compStart1 loop (by
    obtain ⟨o6, ho6, hc6, hd6⟩ := F5.ow _ (.head _)
    exact wpAny_pyIter_listiter (i := 0) ⟨o6, ho6, hc6, hd6⟩ loop)
theorem comp_loop2 {elt it1 it2 : Expr} {x y : Str} {px py pos : Pos} {scope : Scope} {cl : List (Str × Addr)} {B1 B5 : Heap} {vs : List Value} {C it acc : Addr} {Y : Ow} {s6 : Shared} {R : Result → Shared → Prop} {St : Nat → Obj → Prop} {T : Heap → List Value → Prop} (hh : c.A.handled = none)
    (J : Nat → Heap → List Value → Prop) (hJ0 : ∀ B2, Bs c.n B1 B2 → J 0 B2 [])
    (turn : ∀ (i : Nat) u Bi B2 m0 own' ys, vs[i]? = some u → Bs c.n B1 Bi → Bs c.n Bi B2 → J i Bi ys → EV (cpx c scope cl C) B2 (put m0 x u) own' it2 fun B3 v => ∃ a ws, v = .ref a ∧ Ls B3 a ws ∧ ys.length + ws.length ≤ sizeLine ∧ ∀ B4, Bs c.n B3 B4 → J (i + 1) B4 (ys ++ ws))
    (helt : ∀ B m own u, EV (cpx c scope cl C) B (put m y u) own elt fun _ v => v = u)
    (fin : ∀ B2 ys, Bs c.n B1 B2 → J vs.length B2 ys → T B2 ys) (hkind : scope.kind = .function) (hx : scope.names.lookup x = some .local) (hy : scope.names.lookup y = some .local) (hs2 : ∀ env z, foldedSetIterable it2 env z = Pure.pure z)
    (bb : Bs c.n B1 B5) (F6 : Fm (cpx c scope cl C) B5 [] ((it, St 0) :: (acc, isL []) :: Y) s6)
    (hnx : ∀ (c' : Cx) B', c'.A = c.A → Ext B1 B' → ∀ it i x p, NX c' B' it St i (decide (i < vs.length)) (.Name x p) fun _ v => vs[i]? = some v)
    (hself : ∀ (s : Shared) it i (Q : Value → Shared → Prop) E o, s.heap.get? it = some o → St i o → Q (.ref it) s → wpAny (Md c.w) c.A (pyIter (.ref it)) Q E s)
    (hR : ∀ s' B' m' ys, Bs c.n B5 B' → Fm (cpx c scope cl C) B' m' ((acc, isL ys) :: Y) s' → T B' ys → R (.ok .next) s') :
    codeAny (Md c.w) c.A (.compStart (.ListComp elt [⟨.Name x px, it1, [], 0⟩, ⟨.Name y py, it2, [], 0⟩] scope pos) 0 (.ref it) (.ref acc) (compEnvC scope cl C c.env)) R s6 := by
  have loop : codeAny (Md c.w) c.A (.compLoop (.ListComp elt [⟨.Name x px, it1, [], 0⟩, ⟨.Name y py, it2, [], 0⟩] scope pos) 0 (.ref it) (.ref acc) (compEnvC scope cl C c.env)) R s6 := by
    refine codeAny_loop rfl (fun n s => ∃ i Bi m1 ys, n + i = vs.length ∧ Bs c.n B1 Bi ∧ Bs c.n B5 Bi ∧ Fm (cpx c scope cl C) Bi m1 ((it, St i) :: (acc, isL ys) :: Y) s ∧ J i Bi ys) (fun n s hI => ?_) vs.length ⟨0, B5, [], [], rfl, bb, Bs.refl _ _, F6, hJ0 _ bb⟩
    obtain ⟨i, Bi, mi, ys, hni, bi, bi5, Fi, hJi⟩ := hI
    show wpAny _ c.A ((compTurn (.ListComp elt [⟨.Name x px, it1, [], 0⟩, ⟨.Name y py, it2, [], 0⟩] scope pos) 0 (.ref it) (.ref acc) (compEnvC scope cl C c.env)).onRaise (fun x => do noteFrame x (compEnvC scope cl C c.env); theTreesLotGoes x)) _ _ s
    refine wpAny_noted ?_
    rw [compTurn_two0]
    refine wpAny_bind (wpAny_standAt (wpAny_bind ?_))
    refine (hnx (cpx c scope cl C) Bi rfl bi.ext it i x px).run Bi mi _ s _ _ (Bs.refl _ _) Fi (fun hm v s' hlet => ?_) (fun hm s' F' => ?_)
    · have hlt : i < vs.length := of_decide_eq_true hm
      refine wpAny_bind (hlet _ _ fun s'' B'' b'' hV F'' => ?_)
      refine wpAny_bind ((TG.name (c := cpx c scope cl C) (x := x) (p := px) (V := fun _ v => vs[i]? = some v) (lookup_relabel_local hx) hkind).run B'' mi _ v s'' _ _ hV F'' fun s3 B3 m3 b3 hU F3 => ?_)
      obtain ⟨u, hu, rfl⟩ := hU
      have bc : Bs c.n Bi B3 := b''.trans b3
      refine wpAny_bind (((turn i u Bi B3 mi _ ys hu bi bc hJi).run B3 (Bs.refl _ _)).run s3 _ _ F3 fun v2 s4 B4 b4 F4 r4 => ?_)
      obtain ⟨a, ws, rfl, hL, hz, hJ⟩ := r4
      refine wpAny_bind (wpAny_standAt (wpAny_bind (wpAny_of_eq (hs2 _ _) (wpAny_bind (wpAny_holding ?_)))))
      refine (GV.iterL (c := cpx c scope cl C) hL).run s4 _ _ F4 fun w5 s5 B5' b5 F5 r5 => ?_
      obtain ⟨i2, rfl, hn2, o2, ho2, hS2⟩ := r5
      have F6' := F5.take b5 (P := isLI a 0) hn2 ho2 hS2
      have b6 := less_bs b5 hn2
      refine wpAny_bind (wpAny_runOwn ?_)
      show codeAny (Md c.w) c.A _ _ _
      refine comp_inner hh helt hkind hy hz F6' (hL.ext b6.ext) fun s7 B7 m7 b7 F7 => ?_
      have b8 := bc.trans (b4.trans (b6.trans b7))
      exact wpAny_pure ⟨rfl, n - 1, by omega, i + 1, B7, m7, ys ++ ws, by omega, bi.trans b8, bi5.trans b8, F7, hJ B7 (b6.trans b7)⟩
    · have hlt : ¬ i < vs.length := of_decide_eq_false hm
      have : i = vs.length := by omega
      subst this
      exact wpAny_pure (hR _ _ _ _ bi5 F' (fin _ _ bi hJi))
  exact codeAny_compStart_list loop (by
    obtain ⟨o6, ho6, hS6⟩ := F6.ow _ (.head _)
    exact hself _ it 0 _ _ o6 ho6 hS6 loop)
theorem EV.listComp2 {elt iter it2 : Expr} {x y : Str} {px py pos : Pos} {scope : Scope} {cl : List (Str × Addr)} {R0 : Heap → Value → Prop} {T : Heap → List Value → Prop} (hh : c.A.handled = none) (he : EV c B m own iter R0)
    (hi : ∀ B1 v, Bs c.n B B1 → R0 B1 v → ∃ a vs, v = .ref a ∧ Src B1 a vs ∧ ∃ J : Nat → Heap → List Value → Prop, (∀ B2, Bs c.n B1 B2 → J 0 B2 []) ∧
      (∀ C (i : Nat) u Bi B2 m0 own' ys, vs[i]? = some u → Bs c.n B1 Bi → Bs c.n Bi B2 → J i Bi ys → EV (cpx c scope cl C) B2 (put m0 x u) own' it2 fun B3 v => ∃ a ws, v = .ref a ∧ Ls B3 a ws ∧ ys.length + ws.length ≤ sizeLine ∧ ∀ B4, Bs c.n B3 B4 → J (i + 1) B4 (ys ++ ws)) ∧
      ∀ B2 ys, Bs c.n B1 B2 → J vs.length B2 ys → T B2 ys)
    (helt : ∀ C B m own u, EV (cpx c scope cl C) B (put m y u) own elt fun _ v => v = u)
    (hT : ∀ B1 B2 ys, Ext B1 B2 → T B1 ys → T B2 ys)
    (hclos : closureFor scope c.env = Pure.pure cl) (hcell : ∀ y ∈ scope.names, y.2 ≠ .cell) (hkind : scope.kind = .function) (hnames : ∀ y ∈ scope.names, y.2 = .local → scope.names.lookup y.1 = some .local) (hx : scope.names.lookup x = some .local) (hy : scope.names.lookup y = some .local)
    (hs : ∀ env y, foldedSetIterable iter env y = Pure.pure y) (hs2 : ∀ env z, foldedSetIterable it2 env z = Pure.pure z) :
    EV c B m own (.ListComp elt [⟨.Name x px, iter, [], 0⟩, ⟨.Name y py, it2, [], 0⟩] scope pos) fun B' v => ∃ a ys, v = .ref a ∧ B.get? a = none ∧ Ls B' a ys ∧ T B' ys :=
  ⟨fun B0 b0 => ⟨fun s Q E F q => by
    rw [eval_ListComp]
    show wpAny _ c.A (comprehension (.ListComp elt [⟨.Name x px, iter, [], 0⟩, ⟨.Name y py, it2, [], 0⟩] scope pos) scope c.env _ (newList []) false (eval iter c.env) none) _ _ s
    refine comp_shell (iter := iter) (g := ⟨.Name x px, iter, [], 0⟩) (gs := [⟨.Name y py, it2, [], 0⟩]) (P := isL) (P0 := isL []) (T := T) rfl rfl hh (he.bs b0) (fun B own s Q E F q => newList_acc s Q E F q) (fun B1 v b1 r1 => ?_) hclos hcell hkind hnames (hs _) s _ E F fun acc ys s' B' C b' hna hnn F' hT' => ?_
    · obtain ⟨a, vs, rfl, hsrc, J, hJ0, turn, fin⟩ := hi B1 v (b0.trans b1) r1
      exact ⟨a, vs, rfl, hsrc, fun C B5 it acc Y s6 R St bb F6 hnx hself hR => comp_loop2 hh J hJ0 (fun i u Bi B2 m0 own' ys => turn C i u Bi B2 m0 own' ys) (helt C) fin hkind hx hy hs2 bb F6 hnx hself hR⟩
    · refine comp_end_none F' fun s'' F2 => ?_
      obtain ⟨B7, b7, hls, F7⟩ := F2.give hnn
      exact q _ s'' B7 (b'.trans b7) F7 ⟨acc, ys, rfl, bs_none b0 hna, hls, hT _ _ _ b7.ext hT'⟩⟩⟩
end
end Mine

end
section
open PySem PySem.W PyProof.Rows
set_option Elab.async false
set_option autoImplicit false
set_option linter.unusedVariables false
set_option maxRecDepth 100000
namespace Mine
/-! sorted() of a list of lists of texts -/
theorem countP_lt {α : Type} {p q : α → Bool} (h : ∀ x, p x = true → q x = true) : ∀ {l : List α} {a : α}, a ∈ l → q a = true → p a = false → l.countP p < l.countP q
  | b :: l, a, hm, h1, h2 => by
    have hle : l.countP p ≤ l.countP q := List.countP_mono_left fun x _ => h x
    rcases List.mem_cons.mp hm with rfl | hm
    · rw [List.countP_cons, List.countP_cons, h1, h2]; simp; omega
    · have ih := countP_lt h hm h1 h2
      rw [List.countP_cons, List.countP_cons]
      by_cases e : p b = true
      · rw [e, h b e]; simp; omega
      · simp [e]; split <;> omega
noncomputable abbrev LL := List (List Nat)
noncomputable def rank (ps : List LL) (i : Nat) : Nat := ps.countP fun x => decide (x < ps.getD i [])
theorem rank_lt {ps : List LL} {i j : Nat} (hi : i < ps.length) : rank ps i < rank ps j ↔ ps.getD i [] < ps.getD j [] := by
  constructor
  · intro h
    refine Classical.byContradiction fun hn => ?_
    refine Nat.not_le.mpr h (List.countP_mono_left fun x _ e => ?_)
    have e := of_decide_eq_true e
    exact decide_eq_true (List.not_le.mp fun hle => hn (Std.lt_of_le_of_lt hle e))
  · intro h
    refine countP_lt (fun x e => decide_eq_true (List.lt_trans (of_decide_eq_true e) h)) (a := ps.getD i []) ?_ (decide_eq_true h) (decide_eq_false (List.lt_irrefl _))
    rw [List.getD_eq_getElem?_getD, List.getElem?_eq_getElem hi]
    simp
theorem key_lt {prog : Program} {w : World} {A : Around} {E : Value → Shared → Prop} {s : Shared} {a b : Addr} {xs ys : List Str} {Q : Bool → Shared → Prop} (ha : SL s.heap a xs) (hb : SL s.heap b ys) (hu : A.units < cLine) (h : Q (decide (kS xs < kS ys)) s) :
    wpAny (model prog w) A (keyLt' oneType' (.ref a) (.ref b)) Q E s := by
  obtain ⟨l1, ⟨o1, ho1, n1, rfl⟩, rfl⟩ := ha
  obtain ⟨l2, ⟨o2, ho2, n2, rfl⟩, rfl⟩ := hb
  rw [keyLt'_oneType, oneLt'_eq]
  simp only [if_true]
  refine wpAny_bind (wpAny_cRoomFor hu ?_)
  refine wpAny_bind (wpAny_callSpecialIfBound?_slot ⟨_, ho1, rfl⟩ PySem.F.slot_list_lt (call_meets PySem.F.slot_list_lt ⟨_, ho1, rfl⟩ PySem.F.entry_list_lt (PySem.F.args_list_lt_2 _ _) (list_lt a b l1 l2 n1 n2) ⟨ho1, ho2, ?_⟩))
  exact wpAny_truthy_bool (by simpa [kS, ksOf, List.map_map, Function.comp_def] using h)
theorem SLs.at {h : Heap} {rs : List Addr} {ps : List LL} (x : SLs h rs ps) {i : Nat} (hi : i < rs.length) : SL h (rs.getD i 0) ((ps.getD i []).map S) := by
  have hi2 : i < ps.length := by rw [← x.len]; exact hi
  refine x.get i _ _ ?_ ?_
  · rw [List.getD_eq_getElem?_getD, List.getElem?_eq_getElem hi]; rfl
  · rw [List.getD_eq_getElem?_getD, List.getElem?_eq_getElem hi2]; rfl
theorem SLs.pick {h : Heap} {rs : List Addr} {ps : List LL} (x : SLs h rs ps) : ∀ (l : List Nat), (∀ i ∈ l, i < rs.length) → SLs h (l.map fun i => rs.getD i 0) (l.map fun i => ps.getD i [])
  | [], _ => trivial
  | i :: l, hl => by
    have hi := hl i (by simp)
    have hi2 : i < ps.length := by rw [← x.len]; exact hi
    refine ⟨?_, SLs.pick x l fun j hj => hl j (by simp [hj])⟩
    exact x.at hi
section
variable {c : Cx} {B : Heap} {m : Lo} {own : Ow}
theorem gv_sortedPL {l : Addr} {ps : List LL} (hL : PL B l ps) (h2 : 2 ≤ ps.length) (h64 : ps.length < 64) (hu : c.A.units + 100 < cLine) :
    GV c B m own (call (.builtin "sorted") [.ref l]) fun B' v => ∃ a qs, v = .ref a ∧ B.get? a = none ∧ PL B' a qs ∧ qs.Perm ps ∧ qs.Pairwise fun x y => ¬ y < x :=
  ⟨fun s Q E F q => by
    obtain ⟨h₀, news, fr, nw, hk⟩ := F.fr
    obtain ⟨rs, hls, hS⟩ := hL
    have hn := hS.len
    have keeps : ∀ h', Fr h₀ c.L h' (fun x => m.lookup x) → ∀ new, News h₀ c.L h' (new ++ news) → Ext B h' := fun h' f' new n' b o e => hk h' new f' n' b o (fun q => by rw [q, F.bL] at e; cases e) (F.frz _ _ e)
    have keeps0 : ∀ h', Fr h₀ c.L h' (fun x => m.lookup x) → News h₀ c.L h' news → Ext B h' := fun h' f' n' => keeps h' f' [] n'
    have gd : ∀ i, i < rs.length → (rs.map Value.ref).getD i Value.none = .ref (rs.getD i 0) := fun i hi => by
      simp [List.getD_eq_getElem?_getD, List.getElem?_eq_getElem hi]
    have hs1 : s.heap.objs.size < s.heap.objs.size + 1 := Nat.lt_succ_self _
    refine wpAny_with_toks F.tk (Calls.call_function_entry kind_sorted plain_sorted entry_sorted (args_sorted1 _) ?_)
    unfold Builtin.«sorted»
    refine wpAny_bind (m := checkCount "sorted" 1 1 _) (wpAny_pure ?_)
    refine wpAny_bind (collect_list (hls.ext F.frz).list ?_ (by simp [sizeLine_eq]; omega))
    refine wpAny_bind (wpAny_newList ?_ (by simp [sizeLine_eq]; omega))
    obtain ⟨h2, hh2, D, hD, hDh, hex, hge⟩ : ∃ h2 : Heap, h2 = ((s.heap.push (seqObj "list" #[] 0)).update s.heap.objs.size (Obj.mapSeq (· ++ (rs.map Value.ref).toArray))).push (seqObj "list" (rs.map Value.ref).toArray 0) ∧ ∃ D, D = ((s.heap.push (seqObj "list" #[] 0)).update s.heap.objs.size (Obj.mapSeq (· ++ (rs.map Value.ref).toArray))).objs.size ∧ h2.get? D = some (seqObj "list" (rs.map Value.ref).toArray 0) ∧ Ext s.heap h2 ∧ s.heap.objs.size < D := by
      refine ⟨_, rfl, _, rfl, Heap.get?_push_size _ rfl, fun b o e => Heap.get?_push_of_some _ ?_, ?_⟩
      · rw [Heap.get?_update_ne _ _ _ _ (Nat.ne_of_lt (Heap.lt_size e))]
        exact Heap.get?_push_of_some _ e
      · rw [Heap.size_update]; simp [Heap.push]
    show wpAny _ _ _ _ _ { s with heap := ((s.heap.push (seqObj "list" #[] 0)).update s.heap.objs.size (Obj.mapSeq (· ++ (rs.map Value.ref).toArray))).push (seqObj "list" (rs.map Value.ref).toArray 0) }
    rw [← hh2, ← hD]
    have nlt : ∀ p ∈ news, p.1 < D := fun p hp => Nat.lt_trans (Heap.lt_size (nw p hp).1) hge
    refine wpAny_bind (wpAny_holding (wpAny_call_entry slot_list_sort ⟨_, hDh, rfl⟩ entry_list_sort ?body (args_list_sort _)))
    refine wpAny_mono (kas_list_sort (s := { s with heap := h2 }) (E := fun _ _ => False) (T := .type "list") (P := fun fin s' => fin = .done (.ret .none) ∧ (1 ≤ s'.toks → ∀ w, w = Value.ref D → _)) (fr.kept hex) (nw.grown hex) hDh (Nat.ne_of_gt (Nat.lt_trans F.ns.lt hge)) ?_ (fun p hp => Nat.ne_of_lt (nlt p hp)) (by simp; omega) (by simp; omega) (fun e1 h' f' n' v hv => ?_) rfl rfl fun e1 h' f' n' => ?_) (fun fin s' ⟨e, hf⟩ => ⟨_, e, wpAny_pure ⟨_, rfl, fun ht => hf ht _ rfl⟩⟩) (fun _ _ e => e.elim)
    · exact Heap.get?_none_of_le (Nat.le_trans fr.above (Nat.le_of_lt (Nat.lt_trans F.ns.lt hge)))
    · obtain ⟨r, hr, rfl⟩ := List.mem_map.mp hv
      obtain ⟨i, hi, rfl⟩ := List.getElem_of_mem hr
      have hi2 : i < ps.length := by omega
      obtain ⟨l0, ⟨o, ho, n, rfl⟩, e⟩ := (hS.ext (keeps h' f' [(D, seqObj "list" #[] e1)] n')).get i _ _ (List.getElem?_eq_getElem hi) (List.getElem?_eq_getElem hi2)
      exact fun A Q E s k q => wpAny_typeOf ⟨_, k _ _ ho, rfl⟩ q
    · have hlt := nlt
      have e' := keeps h' f' [(D, seqObj "list" #[] e1)] n'
      refine sort_wp (rank ps) (P := fun s' => s'.heap = h' ∧ s'.gens = s.gens ∧ s'.os = s.os) (n := (rs.map Value.ref).length) (by simp; omega) (fun i j C s1 hi hj hs hC => ?_) ⟨rfl, rfl, rfl⟩ fun p s1 hp hsrt hs => ?_
      · rw [List.length_map] at hi hj
        unfold kas_ask
        rw [gd i hi, gd j hj]
        have hSl := hS.ext (h' := s1.heap) (by rw [hs.1]; exact e')
        refine key_lt (hSl.at hi) (hSl.at hj) (show c.A.units + 1 + 1 < cLine by omega) ?_
        rw [kS_S, kS_S]
        have := hC s1 hs
        rw [decide_eq_decide.mpr (rank_lt (ps := ps) (i := i) (j := j) (by omega))] at this
        exact this
      · rw [List.length_map] at hp hsrt
        have hpl : p.toList.Perm (List.range rs.length) := by
          have := Array.perm_iff_toList_perm.mp hp
          simpa using this
        have hin : ∀ i ∈ p.toList, i < rs.length := fun i hi => by simpa using hpl.mem_iff.mp hi
        refine KasFin.intro (news := (D, seqObj "list" #[] e1) :: news) (g := fun o => (D, o) :: news) (by rw [hs.1]; exact f') (by rw [hs.1]; exact n') ?_ fun h2' c2 f2 n2 => ⟨rfl, fun ht v hv => ?_⟩
        · exact UpdF.head fun p hp => Nat.ne_of_lt (hlt p hp)
        · subst hv
          obtain ⟨b, F'⟩ := F.growL (s' := { s1 with heap := h2' }) (hk h2' [(D, _)] f2 n2) f2.ns hs.2.1 hs.2.2 ht
          refine q _ _ _ (b.low F.size) F' ⟨D, p.toList.map fun i => ps.getD i [], rfl, ?_, ⟨p.toList.map fun i => rs.getD i 0, ?_, ?_⟩, ?_, ?_⟩
          · cases e : B.get? D with
            | none => rfl
            | some o => exact absurd (Heap.lt_size (F.frz _ _ e)) (Nat.not_lt.mpr (Nat.le_of_lt hge))
          · refine ⟨_, grown_new (n2 _ (.head _)).1 (Nat.le_of_lt hge), c2, ?_⟩
            show seqObj "list" _ _ = _
            congr 2
            rw [List.map_map]
            exact List.map_congr_left fun i hi => gd i (hin i hi)
          · exact (hS.ext b.ext).pick _ hin
          · have := hpl.map fun i => ps.getD i []
            rw [hn, PyProof.Rows.range_getD] at this
            exact this
          · rw [List.pairwise_map, List.pairwise_iff_getElem]
            intro i j hi hj hij hlt'
            have hz : p.toList.length = rs.length := by rw [hpl.length_eq]; simp
            have hj1 := hin _ (List.getElem_mem hj)
            have g : ∀ k (hk : k < p.toList.length), p.getD k 0 = p.toList[k] := fun k hk => by
              rw [Array.getD_eq_getD_getElem?, ← Array.getElem?_toList, List.getElem?_eq_getElem hk]; rfl
            have h1 := hsrt i j (Nat.le_of_lt hij) (by omega)
            unfold Kp at h1
            rw [g i hi, g j hj] at h1
            exact Nat.not_lt.mpr h1 ((rank_lt (by omega)).mpr hlt')⟩
theorem sorted_uniq {qs ps : List LL} (h : qs.Perm ps) (hq : qs.Pairwise fun x y => ¬ y < x) (hp : ps.Pairwise fun x y => ¬ y < x) : qs = ps :=
  h.eq_of_pairwise (fun a b _ _ h1 h2 => ks_tri h2 h1) hq hp
end
end Mine

end
section
open PySem PySem.W PyProof.Rows
set_option Elab.async false
set_option autoImplicit false
set_option linter.unusedVariables false
set_option maxRecDepth 100000
namespace Mine
/-! the plain law -/
theorem Rw_len {w : Nat} : ∀ {ns : LL}, (∀ n ∈ ns, GoodName n) → (Rw w ns).length ≤ 10 * ns.length
  | [], _ => by simp [Rw]
  | n :: ns, h => by
    have ih := Rw_len (w := w) (ns := ns) fun m hm => h m (by simp [hm])
    have h1 := (h n (by simp)).len
    have h2 := rowsOf_len w (n.map codeOf).length (n.map codeOf)
    rw [Rw_cons, List.length_append, List.length_cons]
    unfold rowsN
    simp only [List.length_map] at h2 ⊢
    omega
theorem GoodPlace.rows {w : Nat} {p : LL} (g : GoodPlace p) : (Rw w p).length ≤ 30 := by
  have h1 := Rw_len (w := w) g.names
  have h2 := g.three
  omega
theorem good_take {p : LL} (h : ∀ n ∈ p, GoodName n) (k : Nat) : ∀ n ∈ p.take k, GoodName n := fun n hn => h n (List.mem_of_mem_take hn)
/-- the tree that the places make -/
inductive Made (w : Nat) (T : Addr) : List LL → Tr → List Addr → Prop
  | nil : Made w T [] [([], T)] []
  | snoc {ps : List LL} {N : Tr} {nds : List Addr} {p : LL} {N' : Tr} {b : Addr} : Made w T ps N nds → Grown N [] (Rw w p) N' b → Made w T (ps ++ [p]) N' (nds ++ [b])
theorem Grown.sub {N N' : Tr} {p rs : LL} {a : Addr} (h : Grown N p rs N' a) : ∀ q ∈ N, q ∈ N' := by
  induction h with
  | nil => exact fun _ h => h
  | snoc h1 h2 h3 ih =>
    intro q hq
    rcases h3 with ⟨_, rfl⟩ | ⟨_, rfl⟩
    · exact ih q hq
    · exact .tail _ (ih q hq)
theorem Grown.keys {N N' : Tr} {p rs : LL} {a : Addr} (h : Grown N p rs N' a) : ∀ q, q ∈ N'.map (·.1) ↔ q ∈ N.map (·.1) ∨ ∃ s, s <+: rs ∧ q = p ++ s := by
  induction h with
  | @nil a h =>
    intro q
    constructor
    · exact fun h => .inl h
    · rintro (h' | ⟨s, hs, rfl⟩)
      · exact h'
      · rw [List.prefix_nil.mp hs, List.append_nil]; exact List.mem_map.mpr ⟨_, h, rfl⟩
  | @snoc rs r N1 N' b a h1 h2 h3 ih =>
    have key : ∀ q, q ∈ N'.map (·.1) ↔ q ∈ N1.map (·.1) ∨ q = p ++ rs ++ [r] := fun q => by
      rcases h3 with ⟨h, rfl⟩ | ⟨_, rfl⟩
      · exact ⟨.inl, fun x => x.elim id fun e => e ▸ h⟩
      · rw [List.map_cons, List.mem_cons]; exact or_comm
    intro q
    rw [key, ih]
    constructor
    · rintro ((h | ⟨s, hs, rfl⟩) | rfl)
      · exact .inl h
      · exact .inr ⟨s, hs.trans (List.prefix_append _ _), rfl⟩
      · exact .inr ⟨rs ++ [r], List.prefix_refl _, by simp⟩
    · rintro (h | ⟨s, hs, rfl⟩)
      · exact .inl (.inl h)
      · rcases List.prefix_concat_iff.mp (by simpa using hs) with rfl | hs
        · exact .inr (by simp)
        · exact .inl (.inr ⟨s, hs, rfl⟩)
theorem Made.len {w : Nat} {T : Addr} {ps : List LL} {N : Tr} {nds : List Addr} (h : Made w T ps N nds) : nds.length = ps.length := by
  induction h with
  | nil => rfl
  | snoc _ _ ih => simp [ih]
theorem Made.size {w : Nat} {T : Addr} {ps : List LL} {N : Tr} {nds : List Addr} (h : Made w T ps N nds) : (∀ p ∈ ps, GoodPlace p) → N.length ≤ 1 + 30 * ps.length := by
  induction h with
  | nil => intro _; simp
  | @snoc ps N nds p N' b h1 h2 ih =>
    intro hg
    have h3 := ih fun q hq => hg q (by simp [hq])
    have h4 := h2.len
    have h5 := (hg p (by simp)).rows (w := w)
    rw [List.length_append]
    simp only [List.length_cons, List.length_nil]
    omega
theorem Made.keys {w : Nat} {T : Addr} {ps : List LL} {N : Tr} {nds : List Addr} (h : Made w T ps N nds) : ∀ q, q ∈ N.map (·.1) ↔ q = [] ∨ ∃ p ∈ ps, q <+: Rw w p := by
  induction h with
  | nil => intro q; simp
  | @snoc ps N nds p N' b h1 h2 ih =>
    intro q
    rw [h2.keys, ih]
    simp only [List.nil_append, List.mem_append, List.mem_singleton]
    constructor
    · rintro ((h | ⟨p', hp, h⟩) | ⟨s, hs, rfl⟩)
      · exact .inl h
      · exact .inr ⟨p', .inl hp, h⟩
      · exact .inr ⟨p, .inr rfl, hs⟩
    · rintro (h | ⟨p', hp | rfl, h⟩)
      · exact .inl (.inl h)
      · exact .inl (.inr ⟨p', hp, h⟩)
      · exact .inr ⟨q, h, rfl⟩
theorem Made.node {w : Nat} {T : Addr} {ps : List LL} {N : Tr} {nds : List Addr} (h : Made w T ps N nds) : ∀ (i : Nat) (p : LL) (b : Addr), ps[i]? = some p → nds[i]? = some b → (Rw w p, b) ∈ N := by
  induction h with
  | nil => intro i p b h; simp at h
  | @snoc ps N nds p N' b h1 h2 ih =>
    intro i q a hq ha
    have hl := h1.len
    by_cases hi : i < ps.length
    · rw [List.getElem?_append_left hi] at hq
      rw [List.getElem?_append_left (by omega)] at ha
      exact h2.sub _ (ih i q a hq ha)
    · have hi' : i = ps.length := by
        have := (List.getElem?_eq_some_iff.mp hq).1
        simp at this; omega
      subst hi'
      rw [List.getElem?_append_right (Nat.le_refl _)] at hq
      rw [List.getElem?_append_right (by omega), hl] at ha
      simp at hq ha
      subst hq ha
      exact h2.at
theorem nodup_val {α β : Type} : ∀ {N : List (α × β)} {x : α} {a b : β}, (N.map (·.1)).Nodup → (x, a) ∈ N → (x, b) ∈ N → a = b
  | q :: N, x, a, b, nd, h1, h2 => by
    rw [List.map_cons, List.nodup_cons] at nd
    rcases List.mem_cons.mp h1 with rfl | h1'
    · rcases List.mem_cons.mp h2 with h2 | h2
      · cases h2; rfl
      · exact absurd (List.mem_map.mpr ⟨(x, b), h2, rfl⟩ : x ∈ N.map (·.1)) nd.1
    · rcases List.mem_cons.mp h2 with rfl | h2
      · exact absurd (List.mem_map.mpr ⟨(x, a), h1', rfl⟩ : x ∈ N.map (·.1)) nd.1
      · exact nodup_val nd.2 h1' h2
theorem nodup_key {α β : Type} : ∀ {N : List (α × β)} {x y : α} {a : β}, (N.map (·.2)).Nodup → (x, a) ∈ N → (y, a) ∈ N → x = y
  | q :: N, x, y, a, nd, h1, h2 => by
    rw [List.map_cons, List.nodup_cons] at nd
    rcases List.mem_cons.mp h1 with rfl | h1'
    · rcases List.mem_cons.mp h2 with h2 | h2
      · cases h2; rfl
      · exact absurd (List.mem_map.mpr ⟨(y, a), h2, rfl⟩ : a ∈ N.map (·.2)) nd.1
    · rcases List.mem_cons.mp h2 with rfl | h2
      · exact absurd (List.mem_map.mpr ⟨(x, a), h1', rfl⟩ : a ∈ N.map (·.2)) nd.1
      · exact nodup_key nd.2 h1' h2
/-- nodes are one iff the places are -/
theorem Made.one {w : Nat} (hw : 4 ≤ w) {T : Addr} {ps : List LL} {N : Tr} {nds : List Addr} (h : Made w T ps N nds) (ok : TrOk N) (nd : (N.map (·.2)).Nodup) (hg : ∀ p ∈ ps, GoodPlace p) {i j : Nat} {p q : LL} {a b : Addr} (hp : ps[i]? = some p) (hq : ps[j]? = some q) (ha : nds[i]? = some a) (hb : nds[j]? = some b) : a = b ↔ p = q := by
  have h1 := h.node i p a hp ha
  have h2 := h.node j q b hq hb
  constructor
  · rintro rfl
    exact Rw_inj hw (hg p (List.mem_of_getElem? hp)).names (hg q (List.mem_of_getElem? hq)).names (nodup_key nd h1 h2)
  · rintro rfl
    exact nodup_val ok.nd h1 h2
/-! the fronts -/
structure Fronts (done : List LL) (cur : LL) (n : Nat) (fr : List LL) : Prop where
  nd : fr.Nodup
  mem : ∀ q, q ∈ fr ↔ ((∃ p ∈ done, ∃ k, 1 ≤ k ∧ k ≤ p.length ∧ q = p.take k) ∨ ∃ k, 1 ≤ k ∧ k ≤ n ∧ q = cur.take k)
  len : fr.length ≤ 3 * done.length + n
theorem Fronts.nil {cur : LL} : Fronts [] cur 0 [] := ⟨List.nodup_nil, fun q => by simp; intro k h1 h2; omega, by simp⟩
theorem Fronts.start {done : List LL} {cur cur' : LL} {fr : List LL} (h : Fronts done cur 0 fr) : Fronts done cur' 0 fr := ⟨h.nd, fun q => by
  rw [h.mem]
  constructor
  · rintro (h | ⟨k, h1, h2, _⟩)
    · exact .inl h
    · omega
  · rintro (h | ⟨k, h1, h2, _⟩)
    · exact .inl h
    · omega, h.len⟩
theorem Fronts.step {done : List LL} {cur : LL} {n : Nat} {fr : List LL} (h : Fronts done cur n fr) : Fronts done cur (n + 1) (if fr.contains (cur.take (n + 1)) then fr else fr ++ [cur.take (n + 1)]) := by
  have key : ∀ q : LL, (∃ k, 1 ≤ k ∧ k ≤ n + 1 ∧ q = cur.take k) ↔ ((∃ k, 1 ≤ k ∧ k ≤ n ∧ q = cur.take k) ∨ q = cur.take (n + 1)) := fun q => by
    constructor
    · rintro ⟨k, h1, h2, rfl⟩
      by_cases e : k = n + 1
      · subst e; exact .inr rfl
      · exact .inl ⟨k, h1, by omega, rfl⟩
    · rintro (⟨k, h1, h2, rfl⟩ | rfl)
      · exact ⟨k, h1, by omega, rfl⟩
      · exact ⟨n + 1, by omega, Nat.le_refl _, rfl⟩
  split
  · rename_i hc
    have hc := List.contains_iff_mem.mp hc
    refine ⟨h.nd, fun q => ?_, by have := h.len; omega⟩
    rw [key]
    constructor
    · intro hq
      rcases (h.mem q).mp hq with h1 | h1
      · exact .inl h1
      · exact .inr (.inl h1)
    · rintro (h1 | h1 | rfl)
      · exact (h.mem q).mpr (.inl h1)
      · exact (h.mem q).mpr (.inr h1)
      · exact hc
  · rename_i hc
    have hc : cur.take (n + 1) ∉ fr := fun e => hc (List.contains_iff_mem.mpr e)
    refine ⟨?_, fun q => ?_, by have := h.len; simp; omega⟩
    · rw [List.nodup_append]
      exact ⟨h.nd, by simp, fun a ha b hb => by simp at hb; subst hb; exact fun e => hc (e ▸ ha)⟩
    · rw [key, List.mem_append, List.mem_singleton, h.mem]
      exact or_assoc
theorem Fronts.done' {done : List LL} {cur : LL} {fr : List LL} (h : Fronts done cur cur.length fr) (h3 : cur.length ≤ 3) : Fronts (done ++ [cur]) cur 0 fr := ⟨h.nd, fun q => by
  rw [h.mem]
  constructor
  · rintro (⟨p, hp, r⟩ | ⟨k, r⟩)
    · exact .inl ⟨p, by simp [hp], r⟩
    · exact .inl ⟨cur, by simp, k, r⟩
  · rintro (⟨p, hp, r⟩ | ⟨k, h1, h2, _⟩)
    · rcases List.mem_append.mp hp with hp | hp
      · exact .inl ⟨p, hp, r⟩
      · rw [List.mem_singleton] at hp; subst hp; exact .inr r
    · omega, by have := h.len; simp; omega⟩
/-! the hard nodes -/
noncomputable def hard (q : LL) : Bool := !soft (q.getLast?.getD [])
theorem pull {α : Type} {P : LL → Prop} {f : LL → α} : ∀ {l : List α}, (∀ x ∈ l, ∃ d, P d ∧ x = f d) → ∃ D : List LL, l = D.map f ∧ ∀ d ∈ D, P d
  | [], _ => ⟨[], rfl, by simp⟩
  | x :: l, h => by
    obtain ⟨d, h1, h2⟩ := h x (by simp)
    obtain ⟨D, h3, h4⟩ := pull (P := P) (f := f) (l := l) fun y hy => h y (by simp [hy])
    exact ⟨d :: D, by rw [h2, h3]; rfl, fun y hy => by rcases List.mem_cons.mp hy with rfl | hy; exact h1; exact h4 y hy⟩
theorem nodup_pull {α : Type} {f : LL → α} : ∀ {D : List LL}, (D.map f).Nodup → D.Nodup
  | [], _ => List.nodup_nil
  | d :: D, h => by
    rw [List.map_cons, List.nodup_cons] at h
    rw [List.nodup_cons]
    exact ⟨fun hm => h.1 (List.mem_map_of_mem hm), nodup_pull h.2⟩
theorem Made.hards {w : Nat} (hw : 4 ≤ w) {T : Addr} {ps : List LL} {N : Tr} {nds : List Addr} (h : Made w T ps N nds) (ok : TrOk N) (hg : ∀ p ∈ ps, GoodPlace p) {f : Nat} (hf : 30 ≤ f) :
    ∃ D : List LL, (dfs N f []).filter hard = D.map (Rw w) ∧ D.Nodup ∧ ∀ q, q ∈ D ↔ ∃ p ∈ ps, ∃ k, 1 ≤ k ∧ k ≤ p.length ∧ q = p.take k := by
  obtain ⟨D, e, hD⟩ := pull (P := fun d => ∃ p ∈ ps, ∃ k, 1 ≤ k ∧ k ≤ p.length ∧ d = p.take k) (f := Rw w) (l := (dfs N f []).filter hard) fun x hx => by
    obtain ⟨hx, hh⟩ := List.mem_filter.mp hx
    obtain ⟨h1, s, hs, es⟩ := dfs_mem hx
    have hs : x ≠ [] := by rw [es]; simpa using hs
    clear es hx
    rcases (h.keys x).mp h1 with rfl | ⟨p, hp, hpre⟩
    · exact absurd rfl hs
    · rcases List.eq_nil_or_concat x with e | ⟨t, r, rfl⟩
      · exact absurd e hs
      · rw [List.concat_eq_append] at hh hpre ⊢
        have hr : soft r = false := by simpa [hard] using hh
        obtain ⟨k, k1, k2, k3⟩ := prefix_hard hw (hg p hp).names hpre hr
        exact ⟨p.take k, ⟨p, hp, k, k1, k2, rfl⟩, k3⟩
  refine ⟨D, e, nodup_pull (f := Rw w) (by rw [← e]; exact (dfs_nodup ok.nd f []).filter _), fun q => ⟨hD q, ?_⟩⟩
  rintro ⟨p, hp, k, k1, k2, rfl⟩
  have gp := hg p hp
  have gt := good_take gp.names k
  have hne : p.take k ≠ [] := fun e => by
    have := congrArg List.length e
    simp at this
    rcases this with h | h
    · omega
    · subst h; simp at k2; omega
  obtain ⟨t, r, er, hr⟩ := Rw_last hw hne gt
  have hm : Rw w (p.take k) ∈ (dfs N f []).filter hard := by
    refine List.mem_filter.mpr ⟨?_, ?_⟩
    · have := dfs_all ok f [] (Rw w (p.take k)) (by rw [er]; simp) (by rw [List.nil_append]; exact (h.keys _).mpr (.inr ⟨p, hp, front_prefix w p k⟩)) (by have h1 := Rw_len (w := w) gt; have h2 := gp.three; have h3 := List.length_take_le k p; omega)
      simpa using this
    · rw [er]; simp [hard, hr]
  rw [e] at hm
  obtain ⟨d, hd, ed⟩ := List.mem_map.mp hm
  obtain ⟨p', hp', k', _, _, rfl⟩ := hD d hd
  rw [← Rw_inj hw (good_take (hg p' hp').names k') gt ed]
  exact hd
theorem fronts_perm {ps D fr : List LL} {cur : LL} (hD : D.Nodup) (hm : ∀ q, q ∈ D ↔ ∃ p ∈ ps, ∃ k, 1 ≤ k ∧ k ≤ p.length ∧ q = p.take k) (hf : Fronts ps cur 0 fr) : D.Perm fr :=
  (List.perm_ext_iff_of_nodup hD hf.nd).mpr fun q => by
    rw [hm, hf.mem]
    exact ⟨.inl, fun h => h.elim id fun ⟨k, h1, h2, _⟩ => by omega⟩
/-! what the decoder says of a front -/
theorem front_code {w : Nat} (hw : 4 ≤ w) {d : LL} (hd : d ≠ []) (h : ∀ n ∈ d, GoodName n) (h3 : d.length ≤ 3) : ∃ xs : List (List Nat × Bool), Rw w d = xs.map rowOf ∧ (∀ p ∈ xs, GoodSeg p) ∧ xs ≠ [] ∧ xs.length ≤ 40 ∧ (xs.map decd).flatten = List.intercalate [10] d ++ [10] := by
  obtain ⟨xs, e1, e2, e3⟩ := segsP hw h
  refine ⟨xs, e1, e2, fun e => ?_, ?_, by rw [e3, Fl_inter hd]⟩
  · obtain ⟨t, r, er, _⟩ := Rw_last hw hd h
    rw [e1, e] at er
    simp at er
  · have h1 := Rw_len (w := w) h
    rw [e1, List.length_map] at h1
    omega
theorem sl_soft {l : List Nat} : (Txt.slice (S l) (some (-1)) none == S [61]) = soft l := by
  by_cases h : l = []
  · subst h; rw [sl_last0]; decide
  · rw [sl_last h, S_beq]
    have e := List.dropLast_concat_getLast h
    unfold soft
    generalize l.getLast h = z at e
    generalize l.dropLast = t at e
    subst e
    simp
theorem soft_app (a : List Nat) {r : List Nat} (h : r ≠ []) : soft (a ++ r) = soft r := by
  unfold soft
  rw [List.getLast?_append]
  cases e : r.getLast? with
  | none => exact absurd (List.getLast?_eq_none_iff.mp e) h
  | some z => rfl
theorem dr_soft {w : Nat} (hw : 4 ≤ w) {a : LL} (h : ∀ n ∈ a, GoodName n) : soft (dr (Rw w a)) = false := by
  by_cases ha : a = []
  · subst ha; show soft (dr []) = false; decide
  · obtain ⟨t, r, er, hr⟩ := Rw_last hw ha h
    have hR := Rw_rows hw h r (by rw [er]; simp)
    rw [er, dr_snoc]
    rw [soft_app _ hR.1.ne]
    exact hr
theorem dr_soft_snoc {rs : LL} {r : List Nat} (hr : soft r = true) : soft (dr (rs ++ [r])) = true := by
  have hne : r ≠ [] := fun e => by subst e; cases hr
  rw [dr_snoc]
  rw [soft_app _ hne]
  exact hr
theorem dress {rs : LL} (h : ∀ r ∈ rs, 47 ∉ r) : Txt.replace (S ([47] ++ List.intercalate [47] rs)) (S [47]) (S [47, 47]) = S (dr rs) := by
  by_cases e : rs = []
  · subst e; simpa [List.intercalate] using dress_nil
  · exact dress_rows e h
end Mine

end
section
open PySem PySem.W PyProof.Rows
set_option Elab.async false
set_option autoImplicit false
set_option linter.unusedVariables false
set_option maxRecDepth 100000
namespace Mine
/-! law: helpers -/
noncomputable abbrev lawFd : FuncData := fdOf 50 .none lawM (.ref 247)
noncomputable abbrev LC (c : Cx) (s : Shared) : Cx := subC c lawFd 248 s
noncomputable def lawB : List Stmt := match PySem.Challenge.pw_qw0067_01.main.body.drop 50 with
  | .FunctionDef _ _ b _ _ _ _ _ _ _ :: _ => b
  | _ => []
noncomputable def inFor (st : Option Stmt) : List Stmt := match st with
  | some (.For _ _ b _ _) => b
  | _ => []
theorem fn_law (w : World) : FnK w 248 lawFd := ⟨⟨.type "function", none, #[], by kernel_rfl⟩, by kernel_rfl⟩
theorem g_places (w : World) : nsIn (KK w) mainGlobals "_law_places" = some (some (.ref 201)) := by kernel_rfl
theorem g_rows (w : World) : nsIn (KK w) mainGlobals "_law_rows" = some (some (.ref 208)) := by kernel_rfl
theorem g_dressed (w : World) : nsIn (KK w) mainGlobals "_law_dressed" = some (some (.ref 215)) := by kernel_rfl
theorem g_lsplit (w : World) : nsIn (KK w) mainGlobals "_law_split" = some (some (.ref 222)) := by kernel_rfl
theorem g_step (w : World) : nsIn (KK w) mainGlobals "_law_step" = some (some (.ref 229)) := by kernel_rfl
theorem g_alike (w : World) : nsIn (KK w) mainGlobals "_law_alike" = some (some (.ref 243)) := by kernel_rfl
theorem g_reduce (w : World) : nsIn (KK w) mainGlobals "reduce" = some (some (.ref 81)) := by kernel_rfl
theorem g_join (w : World) : nsIn (KK w) mainGlobals "join" = some (some (.ref 175)) := by kernel_rfl
theorem g_decode (w : World) : nsIn (KK w) mainGlobals "decode" = some (some (.ref 72)) := by kernel_rfl
theorem g_benc (w : World) : nsIn (KK w) mainGlobals "body_encode" = some (some (.ref 64)) := by kernel_rfl
theorem g_dirname (w : World) : nsIn (KK w) mainGlobals "dirname" = some (some (.ref 189)) := by kernel_rfl
theorem g_common (w : World) : nsIn (KK w) mainGlobals "commonpath" = some (some (.ref 194)) := by kernel_rfl
theorem inter_lenB {b : Nat} : ∀ {rs : LL}, (∀ r ∈ rs, r.length ≤ b) → (List.intercalate [47] rs).length ≤ (b + 1) * rs.length
  | [], _ => by simp [List.intercalate]
  | [r], h => by rw [inter_one]; have := h r (by simp); simp; omega
  | r :: r2 :: rs, h => by
    have ih := inter_lenB (b := b) (rs := r2 :: rs) fun x hx => h x (by simp at hx ⊢; exact .inr hx)
    have := h r (by simp)
    rw [inter_cons2, List.length_append, List.length_append]
    simp only [List.length_cons, List.length_nil] at ih ⊢
    rw [Nat.mul_add (b + 1) (rs.length + 1) 1, Nat.mul_one]
    omega
theorem Rw_ok {w : Nat} (hw : 4 ≤ w) {ns : LL} (h : ∀ n ∈ ns, GoodName n) : ∀ r ∈ Rw w ns, okX r := by
  obtain ⟨xs, f1, f2, f3⟩ := segsP hw h
  rw [f1]
  intro r hr
  obtain ⟨p, hp, rfl⟩ := List.mem_map.mp hr
  intro ch hch
  have := rowOf_chars (f2 p hp) ch hch
  exact (by decide : ∀ z ∈ codeChars, z < 1114112) ch this
theorem name_ok {n : List Nat} (g : GoodName n) : okX n := fun ch hch => (by decide : ∀ z ∈ alpha, z < 1114112) ch (g.chars ch hch)
theorem name_256 {n : List Nat} (g : GoodName n) : ∀ ch ∈ n, ch < 256 := fun ch hch => (by decide : ∀ z ∈ alpha, z < 256) ch (g.chars ch hch)
section
variable {c : Cx} {B : Heap} {m : Lo} {own : Ow}
theorem law_dress {rs : LL} {t : Tok} (room : c.A.depth < recursionLimit) (h : ∀ r ∈ rs, 47 ∉ r) (hl : ∀ r ∈ rs, r.length ≤ 28) (hz : rs.length ≤ 100) : GV c B m own (call (.ref 215) [.str (S (List.intercalate [47] rs)) t]) fun _ v => ∃ t, v = .str (S (dr rs)) t :=
  (law_dressed room (by rw [S_len]; have := inter_lenB hl; omega)).mono fun B1 v b1 ⟨t, e⟩ => ⟨t, by
    rw [e]
    have : Txt.replace (Str.ofString "/" ++ S (List.intercalate [47] rs)) (Str.ofString "/") (Str.ofString "//") = S (dr rs) := by
      rw [← dress h, ← S_app]; rfl
    rw [this]⟩
/-- all of the tree to the base -/
theorem Fm.giveAll {R : Ow} {s : Shared} (hX : ∀ a, ¬ c.X a) : ∀ (T : Ow) {B : Heap}, Fm c B m (T ++ R) s → ∃ B', Bs c.n B B' ∧ (∀ p ∈ T, ∃ o, B'.get? p.1 = some o ∧ p.2 o) ∧ Fm c B' m R s
  | [], B, F => ⟨B, Bs.refl _ _, fun _ h => (nomatch h), F⟩
  | (a, P) :: T, B, F => by
    obtain ⟨B1, b1, h1, F1⟩ := Fm.give F (((F.bown (a, P) (by simp)).2.2).resolve_right (hX a))
    obtain ⟨B2, b2, h2, F2⟩ := Fm.giveAll hX T F1
    refine ⟨B2, b1.trans b2, fun p hp => ?_, F2⟩
    rcases List.mem_cons.mp hp with rfl | hp
    · obtain ⟨o, ho, hP⟩ := h1
      exact ⟨o, b2.ext _ _ ho, hP⟩
    · exact h2 p hp
theorem XW.giveT {N : Tr} {R : Ow} {t : Sem Flow} {K : Flow → Heap → Lo → Ow → Prop} (hX : ∀ a, ¬ c.X a) (h : ∀ B', Bs c.n B B' → TB c.w B' N → (N.map (·.2)).Nodup → XW c B' m R t K) : XW c B m (ownT c.w N N ++ R) t K :=
  ⟨fun s Q E F q => by
    have nd := F.nd
    rw [List.map_append] at nd
    have nd := (List.nodup_append.mp nd).1
    obtain ⟨B', b, hT, F'⟩ := F.giveAll hX
    refine (h B' b (fun q hq => hT _ (List.mem_map.mpr ⟨q, hq, rfl⟩)) ?_).run s Q E F' fun f s' B2 m' own' b2 F2 r => q f s' B2 m' own' (b.trans b2) F2 r
    have e : (ownT c.w N N).map (·.1) = N.map (·.2) := by simp [ownT]
    rw [← e]; exact nd⟩
theorem EV.isSelf {l r : Expr} {pos : Pos} {a : Addr} (hl : VV c B m own l (.ref a)) (hr : VV c B m own r (.ref a)) : VV c B m own (.Compare l [.Is] [r] pos) (.bool true) :=
  EV.cmp hl (fun B1 v b1 ea => (hr.bs b1).mono fun B2 u b2 eu => by subst ea eu; exact GV.still fun s Q E F q => by with_reducible exact wpAny_is_ref_self (q _ s.toks s.drawn rfl)) (noMarks (by decide))
theorem EV.isOther {l r : Expr} {pos : Pos} {a b : Addr} (hl : VV c B m own l (.ref a)) (hr : VV c B m own r (.ref b)) (hab : a ≠ b) (ha : ∃ o, B.get? a = some o ∧ o.cls ≠ .type "tuple") (hb : ∃ o, B.get? b = some o) : VV c B m own (.Compare l [.Is] [r] pos) (.bool false) :=
  EV.cmp hl (fun B1 v b1 ea => (hr.bs b1).mono fun B2 u b2 eu => by
    subst ea eu
    exact GV.still fun s Q E F q => by
      obtain ⟨o, ho, h1⟩ := ha
      obtain ⟨o2, ho2⟩ := hb
      with_reducible exact wpAny_is_ref_other hab (F.frz _ _ ((b1.trans b2).ext _ _ ho)) (F.frz _ _ ((b1.trans b2).ext _ _ ho2)) h1 (q _ s.toks s.drawn rfl)) (noMarks (by decide))
theorem TV.neB {l r : Expr} {pos : Pos} {x y : Bool} (hl : VV c B m own l (.bool x)) (hr : VV c B m own r (.bool y)) : TV c B m own (.Compare l [.NotEq] [r] pos) (x != y) :=
  TV.cmp hl (fun B1 v b1 ea => (hr.bs b1).mono fun B2 u b2 eu => by subst ea eu; exact GV.still fun s Q E F q => by with_reducible exact ne_bool (q _ s.toks s.drawn rfl)) (noMarks (by decide))
end
end Mine

end
section
open PySem PySem.W PyProof.Rows
set_option Elab.async false
set_option autoImplicit false
set_option linter.unusedVariables false
set_option maxRecDepth 100000
namespace Mine
noncomputable abbrev scRow : Scope := { kind := ScopeKind.function, names := [(Str.ofString ".0", NameKind.local), (Str.ofString "name", NameKind.local), (Str.ofString "row", NameKind.local), (Str.ofString "_law_rows", NameKind.globalImplicit), (Str.ofString "width", NameKind.free)], isGenerator := false, isCoroutine := false, more := [] }
noncomputable def zipB : List Stmt := inFor (lawB[5]?)
theorem zip_turn {c : Cx} {B : Heap} {m : Lo} {s : Shared} {Q : Ow} {nds : List Addr} {Nd T r : Addr} {N : Tr} {p : LL} {w : Nat} {tw tp : Tok} (room : (LC c s).A.depth + 102 < recursionLimit) (hh : (LC c s).A.handled = none) {fl : List Env} (hfr : (LC c s).A.frames = some fl) (hu : (LC c s).A.units ≤ 4000)
    (hw : 4 ≤ w) (hw' : w ≤ 8) (hcell : Ce B (s.heap.objs.size + 1) (.int (w : Nat) tw)) (hp : GoodPlace p) (l1 : m.lookup (Str.ofString "names") = some (.ref r)) (hS : SL B r (p.map S)) (l2 : m.lookup (Str.ofString "path") = some (.str (S (encB w p)) tp))
    (l3 : m.lookup (Str.ofString "tree") = some (.ref T)) (l4 : m.lookup (Str.ofString "nodes") = some (.ref Nd)) (ok : TrOk N) (hT : ([], T) ∈ N) (hT9 : 249 ≤ T) (hN : N.length ≤ 1000) (hn : nds.length ≤ 100) :
    XW (LC c s) B m (Q ++ (Nd, isL (nds.map .ref)) :: ownT c.w N N) (execs zipB (LC c s).env) fun f B' m' own' => f = .next ∧ (∃ v, m' = put m (Str.ofString "rows") v) ∧ ∃ N' b, own' = Q ++ (Nd, isL ((nds ++ [b]).map .ref)) :: ownT c.w N' N' ∧ TrOk N' ∧ ([], T) ∈ N' ∧ Grown N [] (Rw w p) N' b := by
  have hR := Rw_rows hw hp.names
  have hRl := hp.rows (w := w)
  have hf : ∀ x ∈ Rw w p, 47 ∉ x := fun x hx => (hR x hx).1.free
  obtain ⟨tl, lr, elr, _⟩ := Rw_last hw (by intro e; subst e; exact absurd hp.one (by decide) : p ≠ []) hp.names
  have hRn : Rw w p ≠ [] := by rw [elr]; simp
  have hcnt : Txt.count (S (encB w p)) (S [47]) + 1 = (Rw w p).length := count_inter hRn hf
  have hspl : splitN (Rw w p).length (S (dr (Rw w p))) [] = (S [47, 47], (Rw w p).map S) := by
    have := splitN_dr (Rw w p).length (Rw w p) [] rfl fun x hx => (hR x hx).1
    simpa using this
  refine XW.assign ((EV.callF (R := fun B v => ∃ r, v = .ref r ∧ SL B r (([47, 47] :: Rw w p).map S)) (VV.glob (g_lsplit _) rfl rfl rfl) (fn_lsplit _) (AV.cons (EV.callF (R := fun _ v => ∃ t, v = .str (S (dr (Rw w p))) t) (VV.glob (g_dressed _) rfl rfl rfl) (fn_dressed _) (AV.cons (VV.loc l2 rfl rfl) (fun B1 v b1 ev => AV.nil fun B2 b2 => by
    subst ev; exact law_dress (rs := Rw w p) (by omega) hf (fun x hx => (hR x hx).2.2.2) (by omega)) fun _ => rfl) fun _ => rfl)
    (fun B1 v b1 ⟨t1, ev⟩ => AV.cons (IV.add (EV.strM1 (VV.str (VV.loc l2 rfl rfl)) PySem.F.slot_str_count PySem.F.type_str_count SV.lit (fun B1 t u => gv_count) (mc_of (fun _ => rfl) rfl rfl) fun _ => rfl) IV.lit) (fun B2 v b2 ⟨t2, ev2⟩ => AV.nil fun B3 b3 => by
      have e : Txt.count (S (encB w p)) (S [47]) + 1 = ((Rw w p).length : Nat) := by omega
      subst ev
      have ev2' : v = .int (Txt.count (S (encB w p)) (S [47]) + 1) t2 := ev2
      rw [e] at ev2'
      subst ev2'
      refine (law_split (n := (Rw w p).length) (by omega) hh (by rw [S_len]; have := dr_len (rs := Rw w p) fun x hx => Nat.le_trans (hR x hx).2.2.2 (by omega); omega) (by omega)).mono fun B4 v b4 ⟨r, e1, _, e2⟩ => ⟨r, e1, ?_⟩
      rw [hspl] at e2
      exact e2) fun _ => rfl) fun _ => rfl) fun _ => rfl).mono fun B1 v b1 ev => ?_) rfl rfl rfl
  obtain ⟨rr, rfl, hrr⟩ := ev
  have k1 := lk_other (x := Str.ofString "rows") (v := Value.ref rr) l1
  have k3 := lk_other (x := Str.ofString "rows") (v := Value.ref rr) l3
  have k4 := lk_other (x := Str.ofString "rows") (v := Value.ref rr) l4
  have k5 : (put m (Str.ofString "rows") (.ref rr)).lookup (Str.ofString "rows") = some (.ref rr) := lk_same
  have hcell := hcell.ext b1.ext
  have hS := hS.ext b1.ext
  have hokR : ∀ x ∈ ([47, 47] :: Rw w p), okX x := fun x hx => by
    rcases List.mem_cons.mp hx with rfl | hx
    · exact fun ch hch => by simp at hch; omega
    · exact Rw_ok hw hp.names x hx
  obtain ⟨m1, em1⟩ : ∃ m1, m1 = put m (Str.ofString "rows") (.ref rr) := ⟨_, rfl⟩
  rw [← em1] at k1 k3 k4 k5 ⊢
  refine XW.ite (x := (([47, 47] :: Rw w p) != ([47, 47] :: Rw w p))) (by
    refine TV.cmp (VV.loc k5 rfl rfl) (fun B2 v b2 ev => (?_ : EV _ _ _ _ _ fun B3 v => ∃ r, v = .ref r ∧ SL B3 r (([47, 47] :: Rw w p).map S)).mono fun B3 u b3 ⟨r3, eu, h3⟩ => by subst ev eu; exact gv_ne_SL (by show (LC c s).A.units + 100 < 9900; omega) (hrr.ext (b2.trans b3).ext) h3 hokR hokR) (noMarks (by decide))
    refine EV.binop (EV.strs (AS.cons SV.lit AS.nil fun _ => rfl) (by show 1 ≤ sizeLine; decide)) fun B3 a b3 ⟨a1, ea, _, l1', hl1, e1⟩ => (EV.listComp2 (c := LC c s) (scope := scRow) (cl := [(Str.ofString "width", s.heap.objs.size + 1)]) (R0 := fun B v => v = .ref r) (T := fun B ys => ∃ l : List (Str × Tok), ys = strValues l ∧ l.map (·.1) = (Rw w p).map S) hh (VV.loc k1 rfl rfl) (fun B4 v b4 ev => ?_) (fun C B m own u => VV.loc lk_same rfl rfl) (fun _ _ _ _ h => h) rfl (by decide +kernel) rfl (by decide +kernel) rfl rfl (fun _ _ => rfl) fun _ _ => rfl).mono fun B4 v b4 ⟨a2, ys, ev, _, hys, l2', e2, e3⟩ => ?_
    · obtain ⟨L, hL, eL⟩ := (hS.ext (b2.trans (b3.trans b4)).ext)
      have hLl : L.length = p.length := by have := congrArg List.length eL; simpa using this
      refine ⟨r, strValues L, ev, .inl hL, fun i _ ys => ∃ l : List (Str × Tok), ys = strValues l ∧ l.map (·.1) = (Rw w (p.take i)).map S, fun _ _ => ⟨[], rfl, rfl⟩, fun C i u Bi B5 m0 own' ys hu bi b5 ⟨l, e1, e2⟩ => ?_, fun B5 ys b5 ⟨l, e1, e2⟩ => ⟨l, e1, by rw [e2]; simp only [strValues, List.length_map, hLl, List.take_length]⟩⟩
      have hu2 : (strValues L)[i]? = L[i]?.map fun p => Value.str p.1 p.2 := by simp [strValues]
      rw [hu2] at hu
      obtain ⟨⟨x, tx⟩, hx, rfl⟩ := Option.map_eq_some_iff.mp hu
      have hxp : (p.map S)[i]? = some x := by rw [← eL, List.getElem?_map, hx]; rfl
      rw [List.getElem?_map] at hxp
      obtain ⟨n, hn', rfl⟩ := Option.map_eq_some_iff.mp hxp
      have gn := hp.names n (List.mem_of_getElem? hn')
      refine EV.mono (R := fun B v => ∃ r, v = .ref r ∧ SL B r ((rowsN w n).map S)) (EV.callF (VV.glob (g_rows _) rfl rfl rfl) (fn_rows _) (AV.cons (VV.loc lk_same rfl rfl) (fun B6 v b6 ev => AV.cons (VV.cell (hcell.ext (b2.trans (b3.trans (b4.trans (bi.trans (b5.trans b6))))).ext) rfl rfl rfl) (fun B7 u b7 eu => AV.nil fun B8 b8 => by
        subst ev eu
        exact (law_rows (c := cpx (LC c s) scRow [(Str.ofString "width", s.heap.objs.size + 1)] C) (l := n) (by show (LC c s).A.depth + 101 < recursionLimit; omega) hfr hh (name_256 gn) (by have := gn.len; omega) hw (by omega)).mono fun B9 v b9 ⟨r9, e9, _, h9⟩ => ⟨r9, e9, h9⟩) fun _ => rfl) fun _ => rfl) fun _ => rfl) fun B6 v b6 ⟨r6, e6, l6, hl6, el6⟩ => ⟨r6, strValues l6, e6, hl6, ?_, fun B7 b7 => ⟨l ++ l6, by rw [e1]; simp [strValues], ?_⟩⟩
      · have h1 := congrArg List.length el6
        have h2 := congrArg List.length e2
        have h3 : (rowsN w n).length ≤ (n.map codeOf).length + 1 := rowsOf_len w (n.map codeOf).length (n.map codeOf)
        have h4 := Rw_len (w := w) (good_take hp.names i)
        have h5 := (List.take_sublist i p).length_le
        have h6 := gn.len
        have h7 := hp.three
        subst e1
        simp only [List.length_map, strValues] at h1 h2 h3 ⊢
        unfold sizeLine
        omega
      · have hi : p.take (i + 1) = p.take i ++ [n] := by rw [List.take_add_one, hn']; rfl
        rw [List.map_append, e2, el6, hi, Rw_app, List.map_append]
        show _ = _ ++ (rowsN w n ++ []).map S
        rw [List.append_nil]
    · subst ea
      subst e2
      have z1 : l1'.length = 1 := by have := congrArg List.length e1; simpa using this
      have z2 : l2'.length = (Rw w p).length := by have := congrArg List.length e3; simpa using this
      have := gv_add_list (c := LC c s) (m := m1) (own := Q ++ (Nd, isL (nds.map .ref)) :: ownT c.w N N) (hl1.ext b4.ext) hys (by simp [strValues, z1, z2]; unfold sizeLine; omega)
      subst ev
      exact this.mono fun B5 v b5 ⟨r5, e5, _, h5⟩ => ⟨r5, e5, l1' ++ l2', by simpa [strValues] using h5, by rw [List.map_append, e1, e3]; rfl⟩) (fun h => absurd h (by simp)) fun _ B2 b2 => XW.nil ?_
  refine XW.exprX (EX.listM (vs := nds.map .ref) (VV.loc k4 rfl rfl) (by simp) PySem.F.slot_list_append PySem.F.type_list_append (R1 := fun B' own' v => ∃ T', own' = (Q ++ [(Nd, isL (nds.map .ref))]) ++ T' ∧ ∃ N' b, T' = ownT c.w N' N' ∧ TrOk N' ∧ v = .ref b ∧ Grown N [] (Rw w p) N' b) (EX.callF (VV.glob (g_reduce _) rfl rfl rfl) (fn_reduce _) (AV.cons (VV.glob (g_step _) rfl rfl rfl) (fun B3 v b3 ev => AV.cons (EV.sliceSL (ys := (Rw w p).map S) (VV.loc k5 rfl rfl) (hrr.ext (b2.trans b3).ext) (PV.some IV.lit) PV.none (by simp; unfold sizeLine; omega) (fun l e => ⟨l.drop 1, pick_from (n := 1), by rw [List.map_drop, e]; rfl⟩) fun _ _ => rfl)
    (fun B4 v4 b4 ⟨r4, e4, _, h4⟩ => AV.cons (VV.loc k3 rfl rfl) (fun B5 v5 b5 e5 => AV.nil fun B6 b6 => by
      subst ev e4 e5
      have := GX.rot (R := Q ++ [(Nd, isL (nds.map .ref))]) (reduce_step (c := LC c s) (B := B6) (m := m1) (R := Q ++ [(Nd, isL (nds.map .ref))]) (N := N) (rows := Rw w p) (a := T) (by show (LC c s).A.depth + 1 < recursionLimit; omega) hh ok hT (h4.ext (b5.trans b6).ext) hT9 (by omega))
      rw [List.append_assoc] at this
      exact this) fun _ => rfl) fun _ => rfl) fun _ => rfl) fun _ => rfl) (fun B3 own3 v b3 h3 => ?_) (mc_of (fun _ => rfl) rfl rfl) fun _ => rfl) rfl rfl
  obtain ⟨_, rfl, N', b, rfl, ok', rfl, hG⟩ := h3
  rw [List.append_assoc]
  refine (gx_append (pre := Q) (post := ownT c.w N' N') (by simp; unfold sizeLine; omega)).mono fun B4 own' v b4 h => ?_
  obtain ⟨rfl, rfl, rfl⟩ := h
  exact XW.nil ⟨rfl, ⟨_, em1⟩, N', b, by simp, ok', hG.sub _ hT, hG⟩
end Mine

end
section
open PySem PySem.W PyProof.Rows
set_option Elab.async false
set_option autoImplicit false
set_option linter.unusedVariables false
set_option maxRecDepth 100000
namespace Mine
noncomputable def frontB : List Stmt := inFor (lawB[7]?)
theorem Fronts.ok {done : List LL} {p : LL} {n : Nat} {fr : List LL} (h : Fronts done p n fr) (hd : ∀ p ∈ done, GoodPlace p) (hp : GoodPlace p) : ∀ q ∈ fr, ∀ x ∈ q, okX x := fun q hq x hx => by
  rcases (h.mem q).mp hq with ⟨p', hp', k, _, _, rfl⟩ | ⟨k, _, _, rfl⟩
  · exact name_ok ((hd p' hp').names x (List.mem_of_mem_take hx))
  · exact name_ok (hp.names x (List.mem_of_mem_take hx))
theorem front_turn {c : Cx} {B : Heap} {m : Lo} {s : Shared} {q : Addr × (Obj → Prop)} {rs : List Addr} {Fr r : Addr} {fr done : List LL} {p : LL} (hh : (LC c s).A.handled = none) (hu : (LC c s).A.units ≤ 4000)
    (hp : GoodPlace p) (hd : ∀ p ∈ done, GoodPlace p) (hd8 : done.length ≤ 8) (l1 : m.lookup (Str.ofString "names") = some (.ref r)) (hS : SL B r (p.map S)) (l2 : m.lookup (Str.ofString "fronts") = some (.ref Fr)) (hSs : SLs B rs fr) (hF : Fronts done p 0 fr) :
    XW (LC c s) B m [q, (Fr, isL (rs.map .ref))] (execs frontB (LC c s).env) fun f B' m' own' => f = .next ∧ (∀ x, (x == Str.ofString "size") = false → m'.lookup x = m.lookup x) ∧ ∃ rs' fr', own' = [q, (Fr, isL (rs'.map .ref))] ∧ SLs B' rs' fr' ∧ Fronts (done ++ [p]) p 0 fr' := by
  have h3 := hp.three
  refine XW.forG (EV.mono (R := fun B v => ∃ r, v = .ref r ∧ Rg B r 1 ((p.length : Int) + 1)) (EV.callT (VV.bl (bl_range _) rfl rfl rfl rfl) (AV.cons IV.lit (fun B1 v b1 ⟨t1, e1⟩ => AV.cons (IV.add (IV.lenSL (VV.bl (bl_len _) rfl rfl rfl rfl) (VV.loc l1 rfl rfl) (hS.ext b1.ext) (by simp; omega) fun _ => rfl) IV.lit) (fun B2 u b2 ⟨t2, e2⟩ => AV.nil fun B3 b3 => by
    subst e1 e2; rw [List.length_map]; exact gv_range2) fun _ => rfl) fun _ => rfl) (fun _ => rfl) fun _ => rfl) fun B1 v b1 ⟨rg, ev, hrg⟩ => ?_) fun _ => rfl
  subst ev
  refine FO.range (fun i B m' own => (∀ x, (x == Str.ofString "size") = false → m'.lookup x = m.lookup x) ∧ ∃ rs fr, own = [q, (Fr, isL (rs.map .ref))] ∧ SLs B rs fr ∧ Fronts done p i fr) hh hrg (by decide) (by decide) (by omega) (by omega) (fun B2 b2 => ⟨fun _ _ => rfl, rs, fr, rfl, hSs.ext (b1.trans b2).ext, hF⟩) ?_ ?_ rfl rfl
  · rintro i t B0 B2 m0 own1 q2 hi b0 b2 ⟨hm, rs, fr, rfl, hS1, hF1⟩
    have hi' : i < p.length := by omega
    have e1 : (1 + (i : Int)) = ((i + 1 : Nat) : Int) := by omega
    rw [e1]
    have k1 := lk_other (x := Str.ofString "size") (v := .int ((i + 1 : Nat) : Int) t) ((hm (Str.ofString "names") (by decide)).trans l1)
    have k2 := lk_other (x := Str.ofString "size") (v := .int ((i + 1 : Nat) : Int) t) ((hm (Str.ofString "fronts") (by decide)).trans l2)
    have k3 : (put m0 (Str.ofString "size") (.int ((i + 1 : Nat) : Int) t)).lookup (Str.ofString "size") = some (.int ((i + 1 : Nat) : Int) t) := lk_same
    have km : ∀ x, (x == Str.ofString "size") = false → (put m0 (Str.ofString "size") (.int ((i + 1 : Nat) : Int) t)).lookup x = m.lookup x := fun x hx => by rw [put_lookup, if_neg (by simpa using hx)]; exact hm x hx
    generalize put m0 (Str.ofString "size") (.int ((i + 1 : Nat) : Int) t) = m1 at k1 k2 k3 km
    have hS2 := hS.ext (b1.trans (b0.trans b2)).ext
    have sl : ∀ (B3 : Heap) (own3 : Ow) (p1 p2 p3 p4 : Pos), Bs (LC c s).n B2 B3 → EV (LC c s) B3 m1 own3 (.Subscript (.Name (Str.ofString "names") p1) (.Slice none (some (.Name (Str.ofString "size") p2)) none p3) p4) fun B v => ∃ r, v = .ref r ∧ SL B r ((p.take (i + 1)).map S) := fun B3 own3 p1 p2 p3 p4 b3 =>
      (EV.sliceSL (ys := (p.take (i + 1)).map S) (VV.loc k1 rfl rfl) (hS2.ext b3.ext) PV.none (PV.some (VV.int (VV.loc k3 rfl rfl))) (by simp; unfold sizeLine; omega) (fun l e => ⟨l.take (i + 1), pick_upto, by rw [List.map_take, e, List.map_take]⟩) fun _ _ => rfl).mono fun B4 v b4 ⟨r, e, _, h⟩ => ⟨r, e, h⟩
    have hgo : ∀ x ∈ p.take (i + 1), okX x := fun x hx => name_ok (hp.names x (List.mem_of_mem_take hx))
    have hst := hF1.step
    refine XW.ite (x := !fr.contains (p.take (i + 1))) (TV.cmp (sl _ _ _ _ _ _ (Bs.refl _ _)) (fun B3 v b3 ev => EV.mono (VV.loc k2 rfl rfl) fun B4 u b4 eu => by
      obtain ⟨r3, rfl, h3⟩ := ev
      subst eu
      exact gv_notIn (rs := rs) (by show (LC c s).A.units + 100 < 9900; omega) (h3.ext b4.ext) (by simp) (hS1.ext (b2.trans (b3.trans b4)).ext) hgo (hF1.ok hd hp)) rfl) (fun hx B3 b3 => ?_) (fun hx B3 b3 => XW.nil (XW.nil ⟨_, rfl, km, rs, fr, rfl, hS1.ext (b2.trans b3).ext, ?_⟩))
    · have hc : fr.contains (p.take (i + 1)) = false := by simpa using hx
      rw [hc] at hst
      refine XW.exprX (EX.listM (vs := rs.map .ref) (VV.loc k2 rfl rfl) (by simp) PySem.F.slot_list_append PySem.F.type_list_append (EX.of (R := fun B own' v => own' = [q2, q, (Fr, isL (rs.map .ref))] ∧ ∃ x, v = .ref x ∧ SL B x ((p.take (i + 1)).map S)) ((sl _ _ _ _ _ _ b3).mono fun B4 v b4 h => ⟨rfl, h⟩)) (fun B4 own4 v b4 h => ?_) (mc_of (fun _ => rfl) rfl rfl) fun _ => rfl) rfl rfl
      obtain ⟨rfl, x4, rfl, hx4⟩ := h
      refine (gx_append (pre := [q2, q]) (post := []) (by
        have h1 := hS1.len
        have h2 := hF1.len
        simp; unfold sizeLine; omega)).mono fun B5 own' v b5 h => ?_
      obtain ⟨rfl, rfl, rfl⟩ := h
      exact XW.nil (XW.nil ⟨_, rfl, km, rs ++ [x4], fr ++ [p.take (i + 1)], by simp, SLs.snoc hx4 (hS1.ext (b2.trans (b3.trans b4)).ext), hst⟩)
    · have hc : fr.contains (p.take (i + 1)) = true := by simpa using hx
      rw [hc] at hst
      exact hst
  · rintro B3 m1 own1 b3 ⟨hm, rs, fr, rfl, hS1, hF1⟩
    rw [show ((p.length : Int) + 1 - 1).toNat = p.length by omega] at hF1
    exact XW.nil ⟨rfl, hm, rs, fr, rfl, hS1, hF1.done' h3⟩
end Mine

end
section
open PySem PySem.W PyProof.Rows
set_option Elab.async false
set_option autoImplicit false
set_option linter.unusedVariables false
set_option maxRecDepth 100000
namespace Mine
noncomputable def kjB : List Stmt := inFor ((inFor (lawB[10]?))[0]?)
theorem joinOk_S {c : Nat} {d : LL} {b : Nat} (hb : ∀ x ∈ d, x.length ≤ b) (h : d.length * b + d.length ≤ 16777216) : JoinOk (S [c]) (d.map S) = true := by
  have := joinOk_of (sep := S [c]) (l := d.map fun x => (S x, 0)) (b := b) (fun p hp => by
    obtain ⟨x, hx, rfl⟩ := List.mem_map.mp hp
    rw [S_len]; exact hb x hx) (by simpa [S_len] using h)
  simpa [Function.comp_def] using this
/-- one place among the places -/
theorem item_ref {c : Cx} {B : Heap} {m : Lo} {own : Ow} {x y : Str} {p1 p2 p3 : Pos} {l a : Addr} {rs : List Addr} {k : Nat} {t : Tok} (hx : m.lookup x = some (.ref l)) (hy : m.lookup y = some (.int (k : Nat) t)) (hl : Ls B l (rs.map .ref)) (hk : k < 1000) (ha : rs[k]? = some a)
    (kx : c.env.kindOf x = some .local) (ky : c.env.kindOf y = some .local) (hf : c.env.scope.kind = .function) (dx : (x == ("__debug__" : Str)) = false) (dy : (y == ("__debug__" : Str)) = false) : VV c B m own (.Subscript (.Name x p1) (.Name y p2) p3) (.ref a) :=
  EV.sub (VV.loc hx kx hf dx) fun B1 o b1 eo => (VV.loc hy ky hf dy).mono fun B2 v b2 ev => by
    subst eo ev
    exact gv_tail_list (hl.ext (b1.trans b2).ext) (by omega) (by omega) (by simp [ha]) rfl
theorem kj_turn {c : Cx} {B : Heap} {m : Lo} {s : Shared} {own : Ow} {nds rs : List Addr} {Nd P Pt T : Addr} {N : Tr} {ps : List LL} {w j k : Nat} {tw tj tk : Tok} (room : (LC c s).A.depth + 102 < recursionLimit) (hh : (LC c s).A.handled = none) (hu : (LC c s).A.units ≤ 4000)
    (hw : 4 ≤ w) (hw' : w ≤ 8) (hcell : Ce B (s.heap.objs.size + 1) (.int (w : Nat) tw)) (hg : ∀ p ∈ ps, GoodPlace p) (hz : ps.length ≤ 8)
    (l1 : m.lookup (Str.ofString "nodes") = some (.ref Nd)) (l2 : m.lookup (Str.ofString "places") = some (.ref P)) (l3 : m.lookup (Str.ofString "paths") = some (.ref Pt)) (l4 : m.lookup (Str.ofString "k") = some (.int (k : Nat) tk)) (l5 : m.lookup (Str.ofString "j") = some (.int (j : Nat) tj))
    (h1 : Ls B Nd (nds.map .ref)) (h2 : Ls B P (rs.map .ref)) (h3 : SLs B rs ps) (h4 : SL B Pt ((ps.map (encB w)).map S)) (hM : Made w T ps N nds) (ok : TrOk N) (nd : (N.map (·.2)).Nodup) (hT : TB c.w B N) (hjk : j < k) (hk : k < ps.length) :
    XW (LC c s) B m own (execs kjB (LC c s).env) fun f B' m' own' => f = .next ∧ own' = own ∧ ∀ x, (x == Str.ofString "shared") = false → m'.lookup x = m.lookup x := by
  have hnl := hM.len
  have hrl := h3.len
  obtain ⟨p, hp⟩ : ∃ p, ps[j]? = some p := ⟨_, List.getElem?_eq_getElem (by omega)⟩
  obtain ⟨q, hq⟩ : ∃ p, ps[k]? = some p := ⟨_, List.getElem?_eq_getElem (by omega)⟩
  obtain ⟨a, ha⟩ : ∃ p, nds[j]? = some p := ⟨_, List.getElem?_eq_getElem (by omega)⟩
  obtain ⟨b, hb⟩ : ∃ p, nds[k]? = some p := ⟨_, List.getElem?_eq_getElem (by omega)⟩
  obtain ⟨r1, hr1⟩ : ∃ p, rs[j]? = some p := ⟨_, List.getElem?_eq_getElem (by omega)⟩
  obtain ⟨r2, hr2⟩ : ∃ p, rs[k]? = some p := ⟨_, List.getElem?_eq_getElem (by omega)⟩
  have hS1 := h3.get j r1 p hr1 hp
  have hS2 := h3.get k r2 q hr2 hq
  have gp := hg p (List.mem_of_getElem? hp)
  have gq := hg q (List.mem_of_getElem? hq)
  have hone := hM.one hw ok nd hg hp hq ha hb
  have hR1 := Rw_rows hw gp.names
  have hR2 := Rw_rows hw gq.names
  have hz1 := gp.rows (w := w)
  have hz2 := gq.rows (w := w)
  have hne : ∀ {p : LL}, GoodPlace p → Rw w p ≠ [] := fun {p} g => by
    obtain ⟨tl, lr, e, _⟩ := Rw_last hw (by intro e; subst e; exact absurd g.one (by decide) : p ≠ []) g.names
    rw [e]; simp
  have obj : ∀ {x : LL} {z : Addr}, (Rw w x, z) ∈ N → ∃ o, B.get? z = some o ∧ o.cls ≠ .type "tuple" := fun hm => by
    obtain ⟨o, ho, es, ep, hx, _⟩ := hT _ hm
    exact ⟨o, ho, by rw [hx.1]; decide⟩
  have oa := obj (hM.node j p a hp ha)
  have ob := obj (hM.node k q b hq hb)
  refine XW.ite (x := decide (a = b) != (p == q)) (TV.neB (?_ : VV _ _ _ _ _ (.bool (decide (a = b)))) (EV.cmp (item_ref l2 l5 h2 (by omega) hr1 rfl rfl rfl (by decide) (by decide)) (fun B1 v b1 ev => (item_ref l2 l4 (h2.ext b1.ext) (by omega) hr2 rfl rfl rfl (by decide) (by decide)).mono fun B2 u b2 eu => by
    subst ev eu
    exact gv_eq_SL (by show (LC c s).A.units + 100 < 9900; omega) (hS1.ext (b1.trans b2).ext) (hS2.ext (b1.trans b2).ext) (fun x hx => name_ok (gp.names x hx)) fun x hx => name_ok (gq.names x hx)) (noMarks (by decide)))) (fun h => ?_) fun _ B1 b1 => XW.nil ?_
  · by_cases e : a = b
    · subst e
      rw [decide_eq_true rfl]
      exact EV.isSelf (item_ref l1 l5 h1 (by omega) ha rfl rfl rfl (by decide) (by decide)) (item_ref l1 l4 h1 (by omega) hb rfl rfl rfl (by decide) (by decide))
    · rw [decide_eq_false e]
      exact EV.isOther (item_ref l1 l5 h1 (by omega) ha rfl rfl rfl (by decide) (by decide)) (item_ref l1 l4 h1 (by omega) hb rfl rfl rfl (by decide) (by decide)) e oa (ob.elim fun o h => ⟨o, h.1⟩)
  · exfalso
    have : decide (a = b) = (p == q) := by
      rw [Bool.eq_iff_iff]; simp only [decide_eq_true_eq, beq_iff_eq]; exact hone
    rw [this] at h
    simp at h
  have hcell := hcell.ext b1.ext
  have h2 := h2.ext b1.ext
  have h4 := h4.ext b1.ext
  have hS1 := hS1.ext b1.ext
  have hS2 := hS2.ext b1.ext
  clear oa ob hT h1 h3
  have hal := alk_pre (Rw w p) (Rw w q)
  have hR : ∀ r ∈ alk (Rw w p) (Rw w q), Row r ∧ r ≠ [46] ∧ 10 ∉ r ∧ r.length ≤ 28 := fun r hr => hR1 r (hal.1.subset hr)
  have hRz : (alk (Rw w p) (Rw w q)).length ≤ 30 := Nat.le_trans hal.1.length_le hz1
  have dressE : ∀ {B2 : Heap} (i : Nat) (x : LL) (y : Str) (t : Tok) (p1 p2 p3 p4 p5 : Pos), Bs (LC c s).n B1 B2 → m.lookup y = some (.int (i : Nat) t) → ps[i]? = some x → (LC c s).env.kindOf y = some .local → (y == ("__debug__" : Str)) = false →
      SV (LC c s) B2 m own (.Call (.Name (Str.ofString "_law_dressed") p1) [.Subscript (.Name (Str.ofString "paths") p2) (.Name y p3) p4] [] p5) (S (dr (Rw w x))) := fun {B2} i x y t p1 p2 p3 p4 p5 b2 hy hx hk' hd => by
    have gx := hg x (List.mem_of_getElem? hx)
    have hRx := Rw_rows hw gx.names
    have hix : i < ps.length := (List.getElem?_eq_some_iff.mp hx).1
    refine EV.callF (VV.glob (g_dressed _) rfl rfl rfl) (fn_dressed _) (AV.cons (SV.item (x := S (encB w x)) (VV.loc l3 rfl rfl) (h4.ext b2.ext) (VV.int (VV.loc hy hk' rfl hd)) (by omega) (by omega) (by simp [hx]) fun _ _ => rfl) (fun B3 v b3 ⟨t3, ev⟩ => AV.nil fun B4 b4 => ?_) fun _ => rfl) fun _ => rfl
    subst ev
    exact law_dress (rs := Rw w x) (by omega) (fun r hr => (hRx r hr).1.free) (fun r hr => (hRx r hr).2.2.2) (by have := gx.rows (w := w); omega)
  refine XW.assign ((SV.replace (x := S ([47] ++ List.intercalate [47] (alk (Rw w p) (Rw w q)))) (y := S [47]) (z := S [47, 47]) (EV.callF (VV.glob (g_common _) rfl rfl rfl) (fn_common _) (AV.cons (EV.list (R := fun _ vs => ∃ t u, vs = [.str (S (dr (Rw w p))) t, .str (S (dr (Rw w q))) u]) (AV.cons (dressE j p _ tj _ _ _ _ _ (Bs.refl _ _) l5 hp rfl (by decide)) (fun B2 v b2 ⟨t2, e2⟩ => AV.cons (dressE k q _ tk _ _ _ _ _ b2 l4 hq rfl (by decide)) (fun B3 u b3 ⟨t3, e3⟩ => AV.nil fun B4 b4 => ⟨t2, t3, by rw [e2, e3]⟩) fun _ => rfl) fun _ => rfl)
    (by rintro _ _ ⟨t, u, rfl⟩; show 2 ≤ sizeLine; decide) fun _ _ _ _ h => h) (fun B2 v b2 ⟨a2, vs, ev, _, hL, t, u, evs⟩ => AV.nil fun B3 b3 => by
      subst ev evs
      exact p_common (by show (LC c s).A.depth + 1 < recursionLimit; omega) hh (by omega) (hL.ext b3.ext) (hne gp) (hne gq) (fun r hr => ⟨(hR1 r hr).1, (hR1 r hr).2.1, by have := (hR1 r hr).2.2.2; omega⟩) (fun r hr => ⟨(hR2 r hr).1, (hR2 r hr).2.1, by have := (hR2 r hr).2.2.2; omega⟩) (by omega) (by omega)) fun _ => rfl) fun _ => rfl)
    (by decide) (by rw [S_len]; have := inter_lenB (rs := alk (Rw w p) (Rw w q)) fun r hr => (hR r hr).2.2.2; simp; omega) (by decide) (mc_of (fun _ => rfl) rfl rfl)).mono fun B2 v b2 ⟨t2, ev⟩ => ?_) rfl rfl rfl
  rw [dress fun r hr => (hR r hr).1.free] at ev
  subst ev
  obtain ⟨sf, esf, hsf⟩ := alk_rows hw gp.names gq.names
  have hap := alk_pre p q
  have ga : ∀ n ∈ alk p q, GoodName n := fun n hn => gp.names n (hap.1.subset hn)
  have ga3 : (alk p q).length ≤ 3 := Nat.le_trans hap.1.length_le gp.three
  have hRa := Rw_rows hw ga
  rw [esf] at hR hRz ⊢
  have hRs : ∀ n, ∀ r ∈ Rw w (alk p q) ++ sf.take n, Row r ∧ r ≠ [46] ∧ 10 ∉ r ∧ r.length ≤ 28 := fun n r hr => hR r (by
    rcases List.mem_append.mp hr with h | h
    · exact List.mem_append_left _ h
    · exact List.mem_append_right _ (List.mem_of_mem_take h))
  refine XW.while (fun n B m' own' => own' = own ∧ (∀ x, (x == Str.ofString "shared") = false → m'.lookup x = m.lookup x) ∧ n ≤ sf.length ∧ ∃ t, m'.lookup (Str.ofString "shared") = some (.str (S (dr (Rw w (alk p q) ++ sf.take n))) t)) sf.length ⟨rfl, fun x hx => by rw [put_lookup, if_neg (by simpa using hx)], Nat.le_refl _, t2, by rw [List.take_length]; exact lk_same⟩ ?_
  rintro n B3 m3 own3 b3 ⟨rfl, hm3, hn, t3, h5⟩
  have hdl : (dr (Rw w (alk p q) ++ sf.take n)).length ≤ 50000 := by
    have := dr_len (rs := Rw w (alk p q) ++ sf.take n) fun r hr => Nat.le_trans (hRs n r hr).2.2.2 (by omega)
    have h6 := List.length_take_le n sf
    rw [List.length_append] at this hRz
    omega
  refine ⟨soft (dr (Rw w (alk p q) ++ sf.take n)), ?_, fun hx B4 b4 => ?_, fun hx B4 b4 => ?_⟩
  · rw [← sl_soft]
    exact TV.eqS (SV.slice (VV.str (VV.loc h5 rfl rfl)) (PV.some (IV.neg IV.lit)) PV.none (by rw [S_len]; unfold sizeLine; omega) fun _ _ => rfl) SV.lit
  · cases n with
    | zero => rw [List.take_zero, List.append_nil, dr_soft hw ga] at hx; cases hx
    | succ n =>
      have hlt : n < sf.length := hn
      have et : Rw w (alk p q) ++ sf.take (n + 1) = (Rw w (alk p q) ++ sf.take n) ++ [sf[n]] := by rw [List.take_add_one, List.getElem?_eq_getElem hlt]; simp
      have hlast := hRs (n + 1) sf[n] (by rw [et]; exact List.mem_append_right _ (.head _))
      refine XW.assign ((EV.callF (R := fun _ v => ∃ t, v = .str (S (dr (Rw w (alk p q) ++ sf.take n))) t) (VV.glob (g_dirname _) rfl rfl rfl) (fn_dirname _) (AV.cons (VV.loc h5 rfl rfl) (fun B5 v b5 ev => AV.nil fun B6 b6 => by
        subst ev
        have := p_dirname (c := LC c s) (B := B6) (m := m3) (own := own3) (x := S (dr (Rw w (alk p q) ++ sf.take (n + 1)))) (t := t3) (by omega) (by rw [S_len]; omega)
        rw [et, head_last (fun r hr => (hRs n r hr).1) hlast.1.free] at this
        rw [et]
        exact this) fun _ => rfl) fun _ => rfl).mono fun B5 v b5 ⟨t5, ev⟩ => ?_) rfl rfl rfl
      subst ev
      exact XW.nil ⟨n, Nat.lt_succ_self n, rfl, fun x hx => by rw [put_lookup, if_neg (by simpa using hx)]; exact hm3 x hx, by omega, t5, lk_same⟩
  · have hn0 : n = 0 := by
      cases n with
      | zero => rfl
      | succ n =>
        have hlt : n < sf.length := hn
        have et : Rw w (alk p q) ++ sf.take (n + 1) = (Rw w (alk p q) ++ sf.take n) ++ [sf[n]] := by rw [List.take_add_one, List.getElem?_eq_getElem hlt]; simp
        rw [et, dr_soft_snoc (hsf _ (List.getElem_mem hlt))] at hx; cases hx
    subst hn0
    rw [List.take_zero, List.append_nil] at h5
    have bb := b2.trans (b3.trans b4)
    have k2 := (hm3 _ (by decide)).trans l2
    have k4 := (hm3 _ (by decide)).trans l4
    have k5 := (hm3 _ (by decide)).trans l5
    refine XW.ite (x := (dr (Rw w (alk p q)) != dr (Rw w (alk p q)))) (TV.neS' (VV.str (VV.loc h5 rfl rfl)) (EV.callF (VV.glob (g_dressed _) rfl rfl rfl) (fn_dressed _) (AV.cons (EV.callF (R := fun _ v => ∃ t, v = .str (S (encB w (alk p q))) t) (VV.glob (g_benc _) rfl rfl rfl) (fn_benc _) (AV.cons (EV.strM (R := fun _ v => ∃ t, v = .str (S (List.intercalate [10] (alk p q))) t) SV.lit PySem.F.slot_str_join PySem.F.type_str_join (AV.cons (EV.callF (R := fun B v => ∃ r, v = .ref r ∧ SL B r ((alk p q).map S)) (VV.glob (g_alike _) rfl rfl rfl) (fn_alike _)
      (AV.cons (item_ref k2 k5 (h2.ext bb.ext) (by omega) hr1 rfl rfl rfl (by decide) (by decide)) (fun B5 v b5 e5 => AV.cons (item_ref k2 k4 (h2.ext (bb.trans b5).ext) (by omega) hr2 rfl rfl rfl (by decide) (by decide)) (fun B6 u b6 e6 => AV.nil fun B7 b7 => by
        subst e5 e6
        refine (law_alike (c := LC c s) (by omega) hh (hS1.ext (bb.trans (b5.trans (b6.trans b7))).ext) (hS2.ext (bb.trans (b5.trans (b6.trans b7))).ext) (by have := gp.three; simp; omega) (by have := gq.three; simp; omega)).mono fun B8 v b8 ⟨r8, e8, _, h8⟩ => ⟨r8, e8, ?_⟩
        rw [alk_S] at h8
        exact h8) fun _ => rfl) fun _ => rfl) fun _ => rfl) (fun B5 v b5 ⟨r5, e5, h5⟩ => AV.nil fun B6 b6 t => by
          subst e5
          refine (gv_join (h5.ext b6.ext) (joinOk_S (c := 10) (b := 9) (fun x hx => (ga x hx).len) (by omega))).mono fun B7 v b7 ⟨t7, e7⟩ => ⟨t7, ?_⟩
          rw [e7]
          have := txt_join [10] (alk p q)
          rw [← this]) fun _ => rfl) (mc_of (fun _ => rfl) rfl rfl) (fun _ => rfl) fun _ => rfl)
      (fun B5 v b5 ⟨t5, e5⟩ => AV.cons (VV.cell (hcell.ext (bb.trans b5).ext) rfl rfl rfl) (fun B6 u b6 e6 => AV.cons SV.lit (fun B7 v7 b7 ⟨t7, e7⟩ => AV.nil fun B8 b8 => by
        subst e5 e6 e7
        exact body_enc (c := LC c s) (by omega) hh ga ga3 hw hw') fun _ => rfl) fun _ => rfl) fun _ => rfl) fun _ => rfl) (fun B5 v b5 ⟨t5, e5⟩ => AV.nil fun B6 b6 => by
          subst e5
          exact law_dress (rs := Rw w (alk p q)) (by omega) (fun r hr => (hRa r hr).1.free) (fun r hr => (hRa r hr).2.2.2) (by have := Rw_len (w := w) ga; omega)) fun _ => rfl) fun _ => rfl)) (fun h => absurd h (by simp)) fun _ B5 b5 => XW.nil (XW.nil ⟨rfl, rfl, hm3⟩)
end Mine

end
section
open PySem PySem.W PyProof.Rows
set_option Elab.async false
set_option autoImplicit false
set_option linter.unusedVariables false
set_option maxRecDepth 100000
namespace Mine
structure LH (c : Cx) (s : Shared) (w : Nat) : Prop where
  room : (LC c s).A.depth + 110 < recursionLimit
  hh : (LC c s).A.handled = none
  fr : ∃ fl, (LC c s).A.frames = some fl
  hu : (LC c s).A.units ≤ 4000
  w4 : 4 ≤ w
  w8 : w ≤ 8
structure LP (ps : List LL) : Prop where
  good : ∀ p ∈ ps, GoodPlace p
  le8 : ps.length ≤ 8
  pre : ∃ tl, ps = init4 ++ tl
structure LW (c : Cx) (s : Shared) (w : Nat) (ps : List LL) (P Pt Nd T : Addr) (N : Tr) (rs nds : List Addr) (B : Heap) : Prop where
  cell : ∃ t, Ce B (s.heap.objs.size + 1) (.int (w : Nat) t)
  hP : Ls B P (rs.map .ref)
  hS : SLs B rs ps
  hPt : SL B Pt ((ps.map (encB w)).map S)
  hNd : Ls B Nd (nds.map .ref)
  made : Made w T ps N nds
  ok : TrOk N
  nd : (N.map (·.2)).Nodup
  tb : TB c.w B N
theorem LW.ext {c : Cx} {s : Shared} {w : Nat} {ps : List LL} {P Pt Nd T : Addr} {N : Tr} {rs nds : List Addr} {B B' : Heap} (h : LW c s w ps P Pt Nd T N rs nds B) (e : Ext B B') : LW c s w ps P Pt Nd T N rs nds B' :=
  ⟨h.cell.imp fun _ x => x.ext e, h.hP.ext e, h.hS.ext e, h.hPt.ext e, h.hNd.ext e, h.made, h.ok, h.nd, h.tb.ext e⟩
structure LM (P Pt Nd T : Addr) (m : Lo) : Prop where
  places : m.lookup (Str.ofString "places") = some (.ref P)
  paths : m.lookup (Str.ofString "paths") = some (.ref Pt)
  nodes : m.lookup (Str.ofString "nodes") = some (.ref Nd)
  tree : m.lookup (Str.ofString "tree") = some (.ref T)
theorem LM.put {P Pt Nd T : Addr} {m : Lo} (h : LM P Pt Nd T m) {x : Str} {v : Value} (h1 : (Str.ofString "places" == x) = false := by decide) (h2 : (Str.ofString "paths" == x) = false := by decide) (h3 : (Str.ofString "nodes" == x) = false := by decide) (h4 : (Str.ofString "tree" == x) = false := by decide) : LM P Pt Nd T (put m x v) :=
  ⟨lk_other h.places h1, lk_other h.paths h2, lk_other h.nodes h3, lk_other h.tree h4⟩
theorem LM.same {P Pt Nd T : Addr} {m m' : Lo} {y : Str} (h : LM P Pt Nd T m) (e : ∀ x, (x == y) = false → m'.lookup x = m.lookup x) (h1 : (Str.ofString "places" == y) = false := by decide) (h2 : (Str.ofString "paths" == y) = false := by decide) (h3 : (Str.ofString "nodes" == y) = false := by decide) (h4 : (Str.ofString "tree" == y) = false := by decide) : LM P Pt Nd T m' :=
  ⟨(e _ h1).trans h.places, (e _ h2).trans h.paths, (e _ h3).trans h.nodes, (e _ h4).trans h.tree⟩
theorem law_kj {c : Cx} {s : Shared} {B : Heap} {m : Lo} {w : Nat} {ps : List LL} {P Pt Nd T : Addr} {N : Tr} {rs nds : List Addr} (H : LH c s w) (G : LP ps) (W : LW c s w ps P Pt Nd T N rs nds B) (M : LM P Pt Nd T m) :
    XW (LC c s) B m [] (execs (lawB.drop 10) (LC c s).env) fun f _ _ _ => f = .ret (.bool true) := by
  have hrl := W.hS.len
  have h8 := G.le8
  refine XW.forG (EV.mono (R := fun B v => ∃ r, v = .ref r ∧ Rg B r 0 (ps.length : Int)) (EV.callT (VV.bl (bl_range _) rfl rfl rfl rfl) (AV.cons (EV.callB (R := fun _ v => ∃ t, v = .int (ps.length : Int) t) (VV.bl (bl_len _) rfl rfl rfl rfl) (AV.cons (VV.loc M.places rfl rfl) (fun B1 v b1 ev => AV.nil fun B2 b2 => by
    subst ev
    have := gv_len_list (c := LC c s) (m := m) (own := []) (W.hP.ext (b1.trans b2).ext) (by simp; omega)
    rw [List.length_map, hrl] at this
    exact this) fun _ => rfl) (fun _ => rfl) fun _ => rfl) (fun B1 v b1 ⟨t, ev⟩ => AV.nil fun B2 b2 => by subst ev; exact gv_range1) fun _ => rfl) (fun _ => rfl) fun _ => rfl) fun B1 v b1 ⟨rg, ev, hrg⟩ => ?_) fun _ => rfl
  subst ev
  refine FO.range (fun i B m own => own = [] ∧ LM P Pt Nd T m) H.hh hrg (by decide) (by decide) (by omega) (by omega) (fun B2 b2 => ⟨rfl, M⟩) ?_ ?_ rfl rfl
  · rintro k t B2 B3 m0 own1 q hk b2 b3 ⟨rfl, M0⟩
    have hk' : k < ps.length := by omega
    have e0 : (0 + (k : Int)) = (k : Nat) := by omega
    rw [e0]
    have kk : (put m0 (Str.ofString "k") (.int ((k : Nat) : Int) t)).lookup (Str.ofString "k") = some (.int ((k : Nat) : Int) t) := lk_same
    have M1 := M0.put (x := Str.ofString "k") (v := .int ((k : Nat) : Int) t)
    generalize put m0 (Str.ofString "k") (.int ((k : Nat) : Int) t) = m1 at kk M1
    have W1 := W.ext (b1.trans (b2.trans b3)).ext
    refine XW.forG (EV.mono (R := fun B v => ∃ r, v = .ref r ∧ Rg B r 0 (k : Int)) (EV.callT (VV.bl (bl_range _) rfl rfl rfl rfl) (AV.cons (VV.loc kk rfl rfl) (fun B1 v b1 ev => AV.nil fun B2 b2 => by subst ev; exact gv_range1) fun _ => rfl) (fun _ => rfl) fun _ => rfl) fun B4 v b4 ⟨rg2, ev, hrg2⟩ => ?_) fun _ => rfl
    subst ev
    refine FO.range (fun i B m own => own = [q] ∧ LM P Pt Nd T m ∧ m.lookup (Str.ofString "k") = some (.int ((k : Nat) : Int) t)) H.hh hrg2 (by decide) (by decide) (by omega) (by omega) (fun B2 b2 => ⟨rfl, M1, kk⟩) ?_ ?_ rfl rfl
    · rintro j tj B5 B6 m2 own2 q2 hj b5 b6 ⟨rfl, M2, k2⟩
      have hj' : j < k := by omega
      have e1 : (0 + (j : Int)) = (j : Nat) := by omega
      rw [e1]
      have W2 := W1.ext (b4.trans (b5.trans b6)).ext
      have M3 := M2.put (x := Str.ofString "j") (v := .int ((j : Nat) : Int) tj)
      have k3 := lk_other (x := Str.ofString "j") (v := .int ((j : Nat) : Int) tj) k2
      obtain ⟨tw, hc⟩ := W2.cell
      refine (kj_turn (by have := H.room; omega) H.hh H.hu H.w4 H.w8 hc G.good h8 M3.nodes M3.places M3.paths k3 lk_same W2.hNd W2.hP W2.hS W2.hPt W2.made W2.ok W2.nd W2.tb hj' hk').mono fun f B7 m7 own7 b7 ⟨e1, e2, e3⟩ => ?_
      subst e1 e2
      exact ⟨[q], rfl, rfl, M3.same e3, (e3 _ (by decide)).trans k3⟩
    · rintro B5 m2 own2 b5 ⟨rfl, M2, k2⟩
      exact XW.nil ⟨[], rfl, rfl, M2⟩
  · rintro B2 m1 own1 b2 ⟨rfl, M1⟩
    exact XW.ret (VV.bool.mono fun B3 v b3 ev => by rw [ev])
end Mine

end
section
open PySem PySem.W PyProof.Rows
set_option Elab.async false
set_option autoImplicit false
set_option linter.unusedVariables false
set_option maxRecDepth 100000
namespace Mine
noncomputable abbrev scWhole : Scope := { kind := ScopeKind.function, names := [(Str.ofString ".0", NameKind.local), (Str.ofString "rows", NameKind.local), (Str.ofString "reduce", NameKind.globalImplicit), (Str.ofString "join", NameKind.globalImplicit)], isGenerator := false, isCoroutine := false, more := [] }
noncomputable abbrev scSort : Scope := { kind := ScopeKind.function, names := [(Str.ofString ".0", NameKind.local), (Str.ofString "path", NameKind.local), (Str.ofString "decode", NameKind.globalImplicit)], isGenerator := false, isCoroutine := false, more := [] }
noncomputable def pth (q : LL) : List Nat := [47, 47] ++ List.intercalate [47] q
theorem gv_neg_list {c : Cx} {B : Heap} {m : Lo} {own : Ow} {value slice : Expr} {a : Addr} {vs : List Value} {k : Int} {u : Tok} {v : Value} {ops : List Value} (ha : Ls B a vs) (h0 : k < 0) (h1 : -(vs.length : Int) ≤ k) (hk : -(2 ^ 63) ≤ k) (hv : vs[(k + vs.length).toNat]? = some v)
    (hs : subscripted slice false (.ref a) (.int k u) = operate ops (getItem (.ref a) (.int k u))) : GV c B m own (subscriptTail value slice (.ref a) (.int k u)) fun _ r => r = v :=
  GV.still fun s Q E F q => by
    have hl := ha.ext F.frz
    with_reducible exact tail_any hl.list.typeIs slot_list_getitem.lookup (wpAny_getItem_list_neg hl.list h0 (by simpa using h1) hk (by simpa using hv) (q v s.toks s.drawn rfl)) hs
theorem two_mem {α : Type} {l : List α} {a b : α} (ha : a ∈ l) (hb : b ∈ l) (h : a ≠ b) : 2 ≤ l.length := by
  match l, ha, hb with
  | [x], ha, hb => simp at ha hb; exact absurd (ha.trans hb.symm) h
  | _ :: _ :: _, _, _ => simp
theorem LP.two {ps fr : List LL} {cur : LL} (G : LP ps) (h : Fronts ps cur 0 fr) : 2 ≤ fr.length := by
  obtain ⟨tl, e⟩ := G.pre
  have m1 : ([[97, 98, 99, 97, 98]] : LL) ∈ fr := (h.mem _).mpr (.inl ⟨[[97, 98, 99, 97, 98]], by rw [e]; exact List.mem_append_left _ (by decide), 1, Nat.le_refl _, Nat.le_refl _, rfl⟩)
  have m2 : ([[97, 98, 99]] : LL) ∈ fr := (h.mem _).mpr (.inl ⟨[[97, 98, 99], [97, 98, 99]], by rw [e]; exact List.mem_append_left _ (by decide), 1, Nat.le_refl _, by decide, rfl⟩)
  exact two_mem m1 m2 (by decide)
theorem Made.way {w : Nat} (hw : 4 ≤ w) {T : Addr} {ps : List LL} {N : Tr} {nds : List Addr} (h : Made w T ps N nds) (hg : ∀ p ∈ ps, GoodPlace p) {q : LL} (hq : q ∈ N.map (·.1)) : q.length ≤ 30 ∧ ∀ r ∈ q, Row r ∧ r.length ≤ 28 := by
  rcases (h.keys q).mp hq with rfl | ⟨p, hp, hpre⟩
  · simp
  · have gp := hg p hp
    refine ⟨Nat.le_trans hpre.length_le gp.rows, fun r hr => ?_⟩
    have := Rw_rows hw gp.names r (hpre.subset hr)
    exact ⟨this.1, this.2.2.2⟩
theorem law_whole {c : Cx} {s : Shared} {B : Heap} {m : Lo} {w : Nat} {ps fr : List LL} {P Pt Nd T Fr : Addr} {N : Tr} {rs nds frs : List Addr} {cur : LL} (H : LH c s w) (G : LP ps) (W : LW c s w ps P Pt Nd T N rs nds B) (M : LM P Pt Nd T m) (hT : ([], T) ∈ N)
    (lf : m.lookup (Str.ofString "fronts") = some (.ref Fr)) (hFr : Ls B Fr (frs.map .ref)) (hFs : SLs B frs fr) (hf : Fronts ps cur 0 fr) :
    XW (LC c s) B m [] (execs (lawB.drop 8) (LC c s).env) fun f _ _ _ => f = .ret (.bool true) := by
  have hw := H.w4
  have hNl := W.made.size G.good
  have h8 := G.le8
  have way : ∀ q ∈ N.map (·.1), q.length ≤ 30 ∧ ∀ r ∈ q, Row r ∧ r.length ≤ 28 := fun q hq => W.made.way hw G.good hq
  obtain ⟨D, eD, hDn, hDm⟩ := W.made.hards hw W.ok G.good (f := 40) (by omega)
  have hperm := fronts_perm hDn hDm hf
  have hgD : ∀ d ∈ D, d ≠ [] ∧ (∀ n ∈ d, GoodName n) ∧ d.length ≤ 3 := fun d hd => by
    obtain ⟨p, hp, k, k1, k2, rfl⟩ := (hDm d).mp hd
    have gp := G.good p hp
    refine ⟨fun e => ?_, good_take gp.names k, Nat.le_trans (List.take_sublist k p).length_le gp.three⟩
    have := congrArg List.length e
    simp at this
    rcases this with h | h
    · omega
    · subst h; simp at k2; omega
  have hDl : D.length = fr.length := hperm.length_eq
  have hfl := hf.len
  have hf2 := G.two hf
  refine XW.assignComp (c := LC c s) (scope := scWhole) (cl := []) (R0 := fun B v => ∃ r, v = .ref r ∧ PL B r (dfs N 40 [])) (T := fun _ ys => ∃ l : List (Str × Tok), ys = strValues l ∧ l.map (·.1) = ((dfs N 40 []).filter hard).map fun q => S (pth q)) H.hh (EV.callF (VV.glob (g_nodes _) rfl rfl rfl) (fn_nodes _) (AV.cons (VV.loc M.tree rfl rfl) (fun B1 v b1 ev => AV.cons (EV.strs AS.nil (Nat.zero_le _)) (fun B2 u b2 ⟨x, eu, _, hx⟩ => AV.nil fun B3 b3 => by
    subst ev eu
    refine (law_nodes (c := LC c s) W.ok (by omega) 40 [] T x (by have := H.room; omega) H.hh hT (fun q hq => by
      have := (way q.1 (List.mem_map_of_mem hq)).1
      simp; omega) (W.tb.ext (b1.trans (b2.trans b3)).ext) (hx.ext b3.ext) (by simp)).mono fun B4 v b4 ⟨r, e, _, h⟩ => ⟨r, e, h⟩) fun _ => rfl) fun _ => rfl) fun _ => rfl) (fun B1 v b1 hv => ?_) (fun a ys B2 hca b2 hna hTs => ?_) rfl (by decide +kernel) rfl (by decide +kernel) rfl (fun _ => rfl) rfl rfl rfl
  · obtain ⟨r, rfl, qs, hql, hqs⟩ := hv
    have hqn := hqs.len
    have hdl := dfs_len W.ok.nd 40 []
    refine ⟨r, qs.map .ref, rfl, .inl hql, by simp; unfold sizeLine; omega, fun i _ ys => ∃ l : List (Str × Tok), ys = strValues l ∧ l.map (·.1) = (((dfs N 40 []).take i).filter hard).map fun q => S (pth q), fun _ _ => ⟨[], rfl, rfl⟩, fun i u C Bi B2 m0 own' ys hu bi b2 ⟨l, e1, e2⟩ => ?_, fun B2 B3 ys b2 ⟨l, e1, e2⟩ b3 => ⟨l, e1, by rw [e2, List.length_map, hqn, List.take_length]⟩⟩
    rw [List.getElem?_map] at hu
    obtain ⟨rr, hrr, rfl⟩ := Option.map_eq_some_iff.mp hu
    have hi : i < qs.length := (List.getElem?_eq_some_iff.mp hrr).1
    obtain ⟨q, hq⟩ : ∃ q, (dfs N 40 [])[i]? = some q := ⟨_, List.getElem?_eq_getElem (by omega)⟩
    have hSq := (hqs.get i rr q hrr hq).ext (bi.trans b2).ext
    obtain ⟨hqk, s0, hs0, hqs0⟩ := dfs_mem (List.mem_of_getElem? hq)
    rw [List.nil_append] at hqs0
    have hqne : q ≠ [] := by rw [hqs0]; exact hs0
    clear hqs0 hs0
    obtain ⟨hq30, hqr⟩ := way q hqk
    have htk : (dfs N 40 []).take (i + 1) = (dfs N 40 []).take i ++ [q] := by rw [List.take_add_one, hq]; rfl
    refine ⟨hard q, ?_, fun hp B3 b3 => ⟨l, e1, by rw [htk, List.filter_append, List.filter_cons, hp, e2]; simp⟩, fun hp B3 b3 => ?_⟩
    · obtain ⟨t, z, rfl⟩ : ∃ t z, q = t ++ [z] := by
        rcases List.eq_nil_or_concat q with e | ⟨t, z, e⟩
        · exact absurd e hqne
        · exact ⟨t, z, by rw [e, List.concat_eq_append]⟩
      have eh : hard (t ++ [z]) = (Txt.slice (S z) (some (-1)) none != S [61]) := by
        unfold bne; rw [sl_soft]; simp [hard]
      rw [eh]
      obtain ⟨L, hL, eL⟩ := hSq
      have hLl : L.length = t.length + 1 := by have := congrArg List.length eL; simpa using this
      have hLz : (L.map (·.1))[t.length]? = some (S z) := by rw [eL]; simp
      rw [List.getElem?_map] at hLz
      obtain ⟨⟨x, tz⟩, hz, ez⟩ := Option.map_eq_some_iff.mp hLz
      have ez : x = S z := ez
      subst ez
      have hzl := (hqr z (by simp)).2
      refine TS.one (TV.neS (SV.slice (EV.sub (R := fun _ v => ∃ t, v = .str (S z) t) (VV.loc lk_same rfl rfl) fun B4 o b4 eo => (IV.neg IV.lit).mono fun B5 v b5 ⟨t5, ev⟩ => ?_) (PV.some (IV.neg IV.lit)) PV.none (by rw [S_len]; unfold sizeLine; omega) fun _ _ => rfl) SV.lit)
      subst eo ev
      refine (gv_neg_list (v := .str (S z) tz) (hL.ext (b4.trans b5).ext) (by decide) (by simp [strValues, hLl]; omega) (by decide) (by
        have e : (-1 + ((strValues L).length : Int)).toNat = t.length := by simp [strValues, hLl]; omega
        rw [e]; simp [strValues, hz]) rfl).mono fun _ _ _ e => ⟨tz, e⟩
    · refine EV.mono (R := fun _ v => ∃ t, v = .str (S (pth q)) t) (EV.callF (VV.glob (g_reduce _) rfl rfl rfl) (fn_reduce _) (AV.cons (VV.glob (g_join _) rfl rfl rfl) (fun B4 v b4 ev => AV.cons (EV.binop (R := fun B v => ∃ r, v = .ref r ∧ SL B r (S [47, 47] :: q.map S)) (EV.strs (AS.cons SV.lit AS.nil fun _ => rfl) (by show 1 ≤ sizeLine; decide)) fun B5 a b5 ⟨a5, e5, _, l5, hl5, el5⟩ => EV.mono (VV.loc lk_same rfl rfl) fun B6 u b6 eu => ?_) (fun B5 u b5 ⟨r5, e5, h5⟩ => AV.nil fun B6 b6 => by
        subst ev e5
        have := reduce_join (c := cpx (LC c s) scWhole [] C) (B := B6) (m := put m0 (Str.ofString "rows") (.ref rr)) (own := own') (x0 := S [47, 47]) (xs := q.map S) (by show (LC c s).A.depth + 2 < recursionLimit; have := H.room; omega) H.hh (h5.ext b6.ext) (by decide) (fun x hx => by
          obtain ⟨z, hz, rfl⟩ := List.mem_map.mp hx
          rw [S_len]; have := (hqr z hz).2; omega) (by simp; omega)
        rw [join_all hqne fun r hr => (hqr r hr).1] at this
        exact this) fun _ => rfl) fun _ => rfl) fun _ => rfl) fun B4 y b4 ⟨ty, ey⟩ => ⟨l ++ [(S (pth q), ty)], by rw [e1, ey]; simp [strValues], by rw [htk, List.filter_append, List.filter_cons, hp, List.map_append, List.map_append, e2]; simp⟩
      subst e5 eu
      obtain ⟨L, hL, eL⟩ := hSq
      have hLl : L.length = q.length := by have := congrArg List.length eL; simpa using this
      have z1 : l5.length = 1 := by have := congrArg List.length el5; simpa using this
      exact (gv_add_list (hl5.ext b6.ext) (hL.ext (b3.trans (b4.trans (b5.trans b6))).ext) (by simp [strValues, z1, hLl]; unfold sizeLine; omega)).mono fun B7 v b7 ⟨r7, e7, _, h7⟩ => ⟨r7, e7, l5 ++ L, by simpa [strValues] using h7, by rw [List.map_append, el5, eL]; rfl⟩
  refine XW.give hca fun B3 b3 hWh => ?_
  obtain ⟨lw, rfl, hlw⟩ := hTs
  rw [eD, List.map_map] at hlw
  have hlwl : lw.length = D.length := by have := congrArg List.length hlw; simpa using this
  have M2 := M.put (x := Str.ofString "whole") (v := Value.ref a)
  have lf2 := lk_other (x := Str.ofString "whole") (v := Value.ref a) lf
  have lw2 : (put m (Str.ofString "whole") (.ref a)).lookup (Str.ofString "whole") = some (.ref a) := lk_same
  generalize put m (Str.ofString "whole") (.ref a) = m2 at M2 lf2 lw2
  have hWh : Ls B3 a (strValues lw) := hWh
  have b03 := b2.trans b3
  refine XW.ite (x := false) (TV.cmp (R1 := fun B v => ∃ a qs, v = .ref a ∧ PL B a qs ∧ qs.Perm D ∧ qs.Pairwise fun x y => ¬ y < x) (EV.callB (VV.bl (bl_sorted _) rfl rfl rfl rfl) (AV.cons (EV.listComp (c := LC c s) (scope := scSort) (cl := []) (R0 := fun _ v => v = .ref a) (T := fun B ys => ∃ zs : List Addr, ys = zs.map .ref ∧ SLs B zs D) H.hh (VV.loc lw2 rfl rfl) (fun B4 v b4 ev => ?_) (by rintro B1 B2 ys e ⟨zs, h1, h2⟩; exact ⟨zs, h1, h2.ext e⟩) rfl (by decide +kernel) rfl (by decide +kernel) rfl fun _ => rfl)
    (fun B4 v b4 ⟨a4, ys, ev, _, hys, zs, ezs, hzs⟩ => AV.nil fun B5 b5 => by
      subst ev ezs
      exact (gv_sortedPL (ps := D) ⟨zs, hys.ext b5.ext, hzs.ext b5.ext⟩ (by omega) (by omega) (by show (LC c s).A.units + 100 < 9900; have := H.hu; omega)).mono fun B6 v b6 ⟨a6, qs, e1, _, e2, e3, e4⟩ => ⟨a6, qs, e1, e2, e3, e4⟩) fun _ => rfl) (fun _ => rfl) fun _ => rfl) (fun B4 v b4 ⟨a4, q1, ev, hq1, hp1, hs1⟩ => EV.mono (R := fun B v => ∃ a qs, v = .ref a ∧ PL B a qs ∧ qs.Perm fr ∧ qs.Pairwise fun x y => ¬ y < x) (EV.callB (VV.bl (bl_sorted _) rfl rfl rfl rfl) (AV.cons (VV.loc lf2 rfl rfl) (fun B5 v b5 ev => AV.nil fun B6 b6 => by
      subst ev
      exact (gv_sortedPL (ps := fr) ⟨frs, hFr.ext (b03.trans (b4.trans (b5.trans b6))).ext, hFs.ext (b03.trans (b4.trans (b5.trans b6))).ext⟩ hf2 (by omega) (by show (LC c s).A.units + 100 < 9900; have := H.hu; omega)).mono fun B6 v b6 ⟨a6, qs, e1, _, e2, e3, e4⟩ => ⟨a6, qs, e1, e2, e3, e4⟩) fun _ => rfl) (fun _ => rfl) fun _ => rfl) fun B5 u b5 ⟨a5, q2, eu, hq2, hp2, hs2⟩ => by
        have e : q1 = q2 := sorted_uniq (hp1.trans (hperm.trans hp2.symm)) hs1 hs2
        subst ev eu e
        have hok : ∀ p ∈ q1, ∀ x ∈ p, okX x := fun p hp x hx => name_ok ((hgD p (hp1.mem_iff.mp hp)).2.1 x hx)
        have hq1' : PL B5 a4 q1 := hq1.imp fun _ h => ⟨h.1.ext b5.ext, h.2.ext b5.ext⟩
        exact (gv_ne_PL (by show (LC c s).A.units + 100 < 9900; have := H.hu; omega) hq1' hq2 hok hok).mono fun _ v _ e => by rw [e]; simp) (noMarks (by decide))) (fun h => nomatch h) fun _ B4 b4 => XW.nil (law_kj H G (W.ext (b03.trans b4).ext) M2)
  subst ev
  refine ⟨a, strValues lw, rfl, .inl (hWh.ext b4.ext), by simp [strValues, hlwl]; unfold sizeLine; omega, fun i B ys => ∃ zs : List Addr, ys = zs.map .ref ∧ SLs B zs (D.take i), fun _ _ => ⟨[], rfl, trivial⟩, fun i u C Bi B5 m0 own' ys hu bi b5 ⟨zs, e1, e2⟩ => ⟨true, TS.nil, (fun h => nomatch h), fun _ B6 b6 => ?_⟩, fun B5 ys b5 ⟨zs, e1, e2⟩ => ⟨zs, e1, by
    have : (strValues lw).length = D.length := by simp [strValues, hlwl]
    rw [this, List.take_length] at e2; exact e2⟩⟩
  have hu2 : (strValues lw)[i]? = lw[i]?.map fun p => Value.str p.1 p.2 := by simp [strValues]
  rw [hu2] at hu
  obtain ⟨⟨x, tx⟩, hx, rfl⟩ := Option.map_eq_some_iff.mp hu
  have hxd : (D.map ((fun q => S (pth q)) ∘ Rw w))[i]? = some x := by rw [← hlw, List.getElem?_map, hx]; rfl
  rw [List.getElem?_map] at hxd
  obtain ⟨d, hd, rfl⟩ := Option.map_eq_some_iff.mp hxd
  have htk : D.take (i + 1) = D.take i ++ [d] := by rw [List.take_add_one, hd]; rfl
  obtain ⟨hd0, hdg, hd3⟩ := hgD d (List.mem_of_getElem? hd)
  obtain ⟨xs, ex, hxg, hx0, hx40, hxd2⟩ := front_code hw hd0 hdg hd3
  have hRd := Rw_rows hw hdg
  have hRl := Rw_len (w := w) hdg
  have hRn : Rw w d ≠ [] := by rw [ex]; simpa using hx0
  have esl : Txt.slice (S (pth (Rw w d))) (some ((2 : Nat) : Int)) none = S (List.intercalate [47] (Rw w d)) := by
    rw [sl_from (by simp [pth])]; rfl
  have erep : Txt.replace (S (List.intercalate [47] (Rw w d))) (S [47]) (S [10]) = S (List.intercalate [10] (Rw w d)) := replace_inter hRn fun x hx => (hRd x hx).1.free
  have espl : Txt.split (S (List.intercalate [10] d)) (S [10]) = d.map S := split_inter hd0 fun x hx => (hdg x hx).no10
  have hil : (List.intercalate [47] (Rw w d)).length ≤ 2000 := by
    have := inter_lenB (rs := Rw w d) fun r hr => (hRd r hr).2.2.2
    omega
  have hdl : (List.intercalate [10] d).length ≤ 2000 := by
    match d, hd0, hdg, hd3 with
    | [a], _, hg, _ => rw [inter_one]; have := (hg a (by simp)).len; omega
    | [a, b], _, hg, _ => rw [inter_cons2, inter_one]; have h1 := (hg a (by simp)).len; have h2 := (hg b (by simp)).len; simp; omega
    | [a, b, c], _, hg, _ => rw [inter_cons2, inter_cons2, inter_one]; have h1 := (hg a (by simp)).len; have h2 := (hg b (by simp)).len; have h3 := (hg c (by simp)).len; simp; omega
  refine EV.mono (R := fun B v => ∃ r, v = .ref r ∧ SL B r (d.map S)) (EV.strM1 (x := S (List.intercalate [10] d)) (y := S [10]) (EV.callF (R := fun _ v => ∃ t, v = .str (S (List.intercalate [10] d)) t) (VV.glob (g_decode _) rfl rfl rfl) (fn_decode _) (AV.cons (R1 := fun _ v => ∃ t, v = .str (S (List.intercalate [10] (Rw w d))) t) (EV.mono (SV.replace (x := S (List.intercalate [47] (Rw w d))) (y := S [47]) (z := S [10]) (EV.mono (SV.slice (VV.str (VV.loc lk_same rfl rfl)) (PV.some (i := ((2 : Nat) : Int)) IV.lit) PV.none (by show (S (pth (Rw w d))).length ≤ _; rw [S_len]; simp [pth]; unfold sizeLine; omega) fun _ _ => rfl) fun B7 v b7 ⟨t7, e7⟩ => ⟨t7, by rw [e7]; exact congrArg (Value.str · t7) esl⟩) (by decide) (by rw [S_len]; omega) (by decide) (mc_of (fun _ => rfl) rfl rfl)) fun B7 v b7 ⟨t7, e7⟩ => ⟨t7, by rw [e7, erep]⟩) (fun B7 v b7 ⟨t7, e7⟩ => AV.nil fun B8 b8 => by
    subst e7
    rw [ex]
    exact de_code (c := cpx (LC c s) scSort [] C) (by show (LC c s).A.depth + 1 < recursionLimit; have := H.room; omega) H.hh hxg hx0 hx40 hxd2) fun _ => rfl) fun _ => rfl) PySem.F.slot_str_split PySem.F.type_str_split SV.lit (fun B7 t u => (gv_split rfl (by rw [S_len]; unfold sizeLine; omega)).mono fun B8 v b8 ⟨r8, e8, _, h8⟩ => ⟨r8, e8, by rw [espl] at h8; exact h8⟩) (mc_of (fun _ => rfl) rfl rfl) fun _ => rfl) fun B7 y b7 ⟨r7, e7, h7⟩ => ⟨zs ++ [r7], by rw [e1, e7]; simp, by rw [htk]; exact SLs.snoc h7 (e2.ext (b5.trans (b6.trans b7)).ext)⟩
end Mine

end
section
open PySem PySem.W PyProof.Rows
set_option Elab.async false
set_option autoImplicit false
set_option linter.unusedVariables false
set_option maxRecDepth 100000
namespace Mine
noncomputable abbrev scPaths : Scope := { kind := ScopeKind.function, names := [(Str.ofString ".0", NameKind.local), (Str.ofString "names", NameKind.local), (Str.ofString "body_encode", NameKind.globalImplicit), (Str.ofString "width", NameKind.free)], isGenerator := false, isCoroutine := false, more := [] }
theorem law_fronts {c : Cx} {s : Shared} {B : Heap} {m : Lo} {w : Nat} {ps : List LL} {P Pt Nd T : Addr} {N : Tr} {rs nds : List Addr} (H : LH c s w) (G : LP ps) (W : LW c s w ps P Pt Nd T N rs nds B) (M : LM P Pt Nd T m) (hT : ([], T) ∈ N) :
    XW (LC c s) B m [] (execs (lawB.drop 6) (LC c s).env) fun f _ _ _ => f = .ret (.bool true) := by
  have hrl := W.hS.len
  have h8 := G.le8
  refine XW.assignOwn ((EV.list (R := fun _ vs => vs = []) (AV.nil fun _ _ => rfl) (by rintro _ _ rfl; exact Nat.zero_le _) fun _ _ _ _ e => e).mono fun B1 v b1 r => ?_) rfl rfl rfl
  obtain ⟨Fr, vs, rfl, hnn, ⟨o, ho, hLo⟩, rfl⟩ := r
  refine ⟨Fr, isL [], o, rfl, hnn, ho, hLo, fun hca b1' => ?_⟩
  generalize less B1 Fr = B1 at b1'
  have M1 := M.put (x := Str.ofString "fronts") (v := Value.ref Fr)
  have l1 : (put m (Str.ofString "fronts") (.ref Fr)).lookup (Str.ofString "fronts") = some (.ref Fr) := lk_same
  generalize put m (Str.ofString "fronts") (.ref Fr) = m1 at M1 l1
  refine XW.forG ((VV.loc M1.places rfl rfl).mono fun B2 v b2 ev => ?_) fun _ => rfl
  subst ev
  refine FO.list (vs := rs.map .ref) (fun i B m own => LM P Pt Nd T m ∧ m.lookup (Str.ofString "fronts") = some (.ref Fr) ∧ ∃ frs fr cur, own = [(Fr, isL (frs.map .ref))] ∧ SLs B frs fr ∧ Fronts (ps.take i) cur 0 fr) H.hh (W.hP.ext (b1'.trans b2).ext) (fun B3 b3 => ⟨M1, l1, [], [], [], rfl, trivial, Fronts.nil⟩) ?_ ?_ rfl rfl
  · rintro i v B3 B4 m0 own1 q hv b3 b4 ⟨M2, l2, frs, fr, cur, rfl, hS2, hF2⟩
    rw [List.getElem?_map] at hv
    obtain ⟨r, hr, rfl⟩ := Option.map_eq_some_iff.mp hv
    have hi : i < rs.length := (List.getElem?_eq_some_iff.mp hr).1
    obtain ⟨p, hp⟩ : ∃ p, ps[i]? = some p := ⟨_, List.getElem?_eq_getElem (by omega)⟩
    have hSp := (W.hS.get i r p hr hp).ext (b1'.trans (b2.trans (b3.trans b4))).ext
    have gp := G.good p (List.mem_of_getElem? hp)
    have M3 := M2.put (x := Str.ofString "names") (v := Value.ref r)
    have l3 := lk_other (x := Str.ofString "names") (v := Value.ref r) l2
    have htk : ps.take (i + 1) = ps.take i ++ [p] := by rw [List.take_add_one, hp]; rfl
    refine (front_turn H.hh H.hu gp (done := ps.take i) (fun x hx => G.good x (List.mem_of_mem_take hx)) (Nat.le_trans (List.take_sublist i ps).length_le h8) lk_same hSp l3 (hS2.ext b4.ext) hF2.start).mono fun f B5 m5 own5 b5 ⟨e1, e2, frs', fr', e3, e4, e5⟩ => ?_
    subst e1 e3
    rw [← htk] at e5
    exact ⟨_, rfl, M3.same e2, (e2 _ (by decide)).trans l3, frs', fr', p, rfl, e4, e5⟩
  · rintro B3 m2 own1 b3 ⟨M2, l2, frs, fr, cur, rfl, hS2, hF2⟩
    rw [List.length_map, hrl, List.take_length] at hF2
    refine XW.give hca fun B4 b4 hFr => ?_
    exact law_whole H G (W.ext (b1'.trans (b2.trans (b3.trans b4))).ext) M2 hT l2 hFr (hS2.ext b4.ext) hF2
theorem law_zip {c : Cx} {s : Shared} {B : Heap} {m : Lo} {w : Nat} {ps : List LL} {P Pt Nd T : Addr} {rs : List Addr} {tw : Tok} (H : LH c s w) (G : LP ps) (hcell : Ce B (s.heap.objs.size + 1) (.int (w : Nat) tw)) (hP : Ls B P (rs.map .ref)) (hS : SLs B rs ps) (hPt : SL B Pt ((ps.map (encB w)).map S)) (M : LM P Pt Nd T m) (hT9 : 249 ≤ T) (hNd : (LC c s).n ≤ Nd) :
    XW (LC c s) B m ((Nd, isL (([] : List Addr).map .ref)) :: ownT c.w [([], T)] [([], T)]) (execs (lawB.drop 5) (LC c s).env) fun f _ _ _ => f = .ret (.bool true) := by
  have hrl := hS.len
  have h8 := G.le8
  obtain ⟨fl, hfr⟩ := H.fr
  obtain ⟨L, hL, eL⟩ := hPt
  have hLl : L.length = ps.length := by have := congrArg List.length eL; simpa using this
  refine XW.forM (EX.callT (VV.bl (bl_zip _) rfl rfl rfl rfl) (AV.cons (VV.loc M.places rfl rfl) (fun B1 v b1 ev => AV.cons (VV.loc M.paths rfl rfl) (fun B2 u b2 eu => AV.nil fun B3 b3 => by
    subst ev eu
    refine (gx_zip (hP.ext (b1.trans (b2.trans b3)).ext) (hL.ext (b1.trans (b2.trans b3)).ext)).mono fun B4 own4 v b4 h => ?_
    obtain ⟨z, TI, TO, i1, i2, rfl, rfl, hTI⟩ := h
    have b04 := b1.trans (b2.trans (b3.trans b4))
    have hP4 := hP.ext b04.ext
    have hL4 := hL.ext b04.ext
    refine ⟨z, fun i => [(z, isZp TI TO), (TO, isPr), (i1, isLI P i), (i2, isLI Pt i)], ps.length, fun i B v => ∃ a v1 v2, v = .ref a ∧ Tu B a [v1, v2] ∧ (rs.map Value.ref)[i]? = some v1 ∧ (strValues L)[i]? = some v2, fun i B m m' => ∃ v1 v2, ((rs.map Value.ref)[i]? = some v1 ∧ (strValues L)[i]? = some v2) ∧ m' = put (put m (Str.ofString "names") v1) (Str.ofString "path") v2,
      fun i B m own => LM P Pt Nd T m ∧ ∃ N nds, own = (Nd, isL (nds.map .ref)) :: ownT c.w N N ∧ Made w T (ps.take i) N nds ∧ TrOk N ∧ ([], T) ∈ N, rfl, rfl, fun s Q E F h => zip_self F h, fun i => ?_, ?_, fun i _ => TG.two (W := fun _ v1 v2 => (rs.map Value.ref)[i]? = some v1 ∧ (strValues L)[i]? = some v2) H.hh rfl rfl rfl, fun i B0 B2 m0 m1 own1 hi b0 b2 hI hU => ?_, fun B2 B3 m1 own1 b2 hI b3 => ?_⟩
    · have := NXm.zip (c := LC c s) (B0 := B4) (z := z) (TO := TO) (elts := [.Name (Str.ofString "names") ⟨297, 8, 297, 13⟩, .Name (Str.ofString "path") ⟨297, 15, 297, 19⟩]) (k := 0) (tp := ⟨297, 8, 297, 19⟩) H.hh hTI hP4 hL4 (by rw [List.length_map, hrl]; simp [strValues, hLl]) i
      rw [List.length_map, hrl] at this
      exact this
    · exact ⟨M, [([], T)], [], rfl, by rw [List.take_zero]; exact .nil, ⟨by simp, fun p r h => by simp at h, by simp, fun q hq => by simp at hq; subst hq; exact Nat.le_trans (by decide : 2 ≤ 249) hT9⟩, by simp⟩
    · obtain ⟨M0, N, nds, rfl, hM, ok, hTN⟩ := hI
      obtain ⟨v1, v2, ⟨e1, e2⟩, rfl⟩ := hU
      rw [List.getElem?_map] at e1
      obtain ⟨r, hr, rfl⟩ := Option.map_eq_some_iff.mp e1
      obtain ⟨p, hp⟩ : ∃ p, ps[i]? = some p := ⟨_, List.getElem?_eq_getElem hi⟩
      have e2' : (strValues L)[i]? = L[i]?.map fun p => Value.str p.1 p.2 := by simp [strValues]
      rw [e2'] at e2
      obtain ⟨⟨x, tx⟩, hx, rfl⟩ := Option.map_eq_some_iff.mp e2
      have hxp : ((ps.map (encB w)).map S)[i]? = some x := by rw [← eL, List.getElem?_map, hx]; rfl
      rw [List.getElem?_map, List.getElem?_map, hp] at hxp
      have hxp : some (S (encB w p)) = some x := hxp
      cases hxp
      have bb := b04.trans (b0.trans b2)
      have gp := G.good p (List.mem_of_getElem? hp)
      have htk : ps.take (i + 1) = ps.take i ++ [p] := by rw [List.take_add_one, hp]; rfl
      have M1 := (M0.put (x := Str.ofString "names") (v := Value.ref r)).put (x := Str.ofString "path") (v := .str (S (encB w p)) tx)
      have hNl := hM.size fun x hx => G.good x (List.mem_of_mem_take hx)
      have hnl := hM.len
      have htl := (List.take_sublist i ps).length_le
      refine (zip_turn (by have := H.room; omega) H.hh hfr H.hu H.w4 H.w8 (hcell.ext bb.ext) gp (lk_other lk_same) ((hS.get i r p hr hp).ext bb.ext) lk_same M1.tree M1.nodes ok hTN hT9 (by omega) (by omega)).mono fun f B5 m5 own5 b5 ⟨h1, ⟨v, h2⟩, N', b, h3, h4, h5, h6⟩ => ?_
      subst h1 h2 h3
      exact ⟨_, rfl, M1.put, N', nds ++ [b], rfl, by rw [htk]; exact .snoc hM h6, h4, h5⟩
    · obtain ⟨M1, N, nds, rfl, hM, ok, hTN⟩ := hI
      rw [List.take_length] at hM
      have bb := b04.trans (b2.trans b3)
      refine XW.give hNd fun B5 b5 hNdL => ?_
      have e : ownT c.w N N = ownT c.w N N ++ [] := (List.append_nil _).symm
      rw [e]
      refine XW.giveT (c := LC c s) (fun a h => h) fun B6 b6 hTB hnd => ?_
      have hNdL : Ls B5 Nd (nds.map .ref) := hNdL
      have bc := bb.trans (b5.trans b6)
      exact law_fronts H G ⟨⟨tw, hcell.ext bc.ext⟩, hP.ext bc.ext, hS.ext bc.ext, SL.ext ⟨L, hL, eL⟩ bc.ext, hNdL.ext b6.ext, hM, ok, hnd, hTB⟩ M1 hTN) fun _ => rfl) fun _ => rfl) (fun _ => rfl) fun _ => rfl) fun _ => rfl
theorem law_rest {c : Cx} {s : Shared} {B : Heap} {sc : Addr} {xs : List Int} {w : Nat} {tw : Tok} (H : LH c s w) (h249 : 249 ≤ (LC c s).n) (hs : IL B sc xs) (hx : xs.length ≤ 63) :
    XW (LC c s) B [kv "script" (.ref sc)] [(s.heap.objs.size + 1, isC (some (.int (w : Nat) tw)))] (execs (lawB.drop 1) (LC c s).env) fun f _ _ _ => f = .ret (.bool true) := by
  have hh := H.hh
  have room := H.room
  have hw4 := H.w4
  have hw8 := H.w8
  obtain ⟨fl, hfl⟩ := H.fr
  refine XW.give (by show s.heap.objs.size ≤ _; omega) fun B2 b2 hcell => ?_
  have hcell : Ce B2 (s.heap.objs.size + 1) (.int (w : Nat) tw) := hcell
  have hs2 := hs.ext b2.ext
  refine XW.assign ((EV.callF (R := fun B v => ∃ r pss, v = .ref r ∧ PL B r pss ∧ LP pss) (VV.glob (g_places _) rfl rfl rfl) (fn_places _) (AV.cons (VV.loc rfl rfl rfl) (fun B3 v b3 ev => AV.nil fun B4 b4 => by
    subst ev
    exact (law_places (c := LC c s) (by omega) hh hfl (hs2.ext (b3.trans b4).ext) hx).mono fun B5 v b5 ⟨r, pss, e1, _, e2, e3, e4, e5⟩ => ⟨r, pss, e1, e2, e5, e4, e3⟩) fun _ => rfl) fun _ => rfl).mono fun B3 v b3 h => ?_) rfl rfl rfl
  obtain ⟨P, ps, rfl, ⟨rs, hP, hS⟩, G⟩ := h
  have hcell := hcell.ext b3.ext
  have hrl := hS.len
  have h8 := G.le8
  have l1 : (put [kv "script" (.ref sc)] (Str.ofString "places") (.ref P)).lookup (Str.ofString "places") = some (.ref P) := lk_same
  generalize put [kv "script" (.ref sc)] (Str.ofString "places") (.ref P) = m1 at l1
  refine XW.assignComp (c := LC c s) (scope := scPaths) (cl := [(Str.ofString "width", s.heap.objs.size + 1)]) (R0 := fun B v => v = .ref P) (T := fun _ ys => ∃ l : List (Str × Tok), ys = strValues l ∧ l.map (·.1) = (ps.map (encB w)).map S) hh (VV.loc l1 rfl rfl) (fun B4 v b4 ev => ?_) (fun Pt ys B4 hca b4 hna hTs => ?_) rfl (by decide +kernel) rfl (by decide +kernel) rfl (fun _ => rfl) rfl rfl rfl
  · subst ev
    refine ⟨P, rs.map .ref, rfl, .inl (hP.ext b4.ext), by simp; unfold sizeLine; omega, fun i _ ys => ∃ l : List (Str × Tok), ys = strValues l ∧ l.map (·.1) = ((ps.take i).map (encB w)).map S, fun _ _ => ⟨[], rfl, rfl⟩, fun i u C Bi B5 m0 own' ys hu bi b5 ⟨l, e1, e2⟩ => ⟨true, TS.nil, (fun h => nomatch h), fun _ B6 b6 => ?_⟩, fun B5 B6 ys b5 ⟨l, e1, e2⟩ b6 => ⟨l, e1, by rw [e2, List.length_map, hrl, List.take_length]⟩⟩
    rw [List.getElem?_map] at hu
    obtain ⟨r, hr, rfl⟩ := Option.map_eq_some_iff.mp hu
    have hi : i < rs.length := (List.getElem?_eq_some_iff.mp hr).1
    obtain ⟨p, hp⟩ : ∃ p, ps[i]? = some p := ⟨_, List.getElem?_eq_getElem (by omega)⟩
    have bb := b4.trans (bi.trans (b5.trans b6))
    have hSp := (hS.get i r p hr hp).ext bb.ext
    have gp := G.good p (List.mem_of_getElem? hp)
    have htk : ps.take (i + 1) = ps.take i ++ [p] := by rw [List.take_add_one, hp]; rfl
    refine EV.mono (R := fun _ v => ∃ t, v = .str (S (encB w p)) t) (EV.callF (VV.glob (g_benc _) rfl rfl rfl) (fn_benc _) (AV.cons (EV.strM (R := fun _ v => ∃ t, v = .str (S (List.intercalate [10] p)) t) SV.lit PySem.F.slot_str_join PySem.F.type_str_join (AV.cons (VV.loc lk_same rfl rfl) (fun B7 v b7 ev => AV.nil fun B8 b8 t => by
        subst ev
        refine (gv_join (hSp.ext (b7.trans b8).ext) (joinOk_S (c := 10) (b := 9) (fun x hx => (gp.names x hx).len) (by have := gp.three; omega))).mono fun B7 v b7 ⟨t7, e7⟩ => ⟨t7, ?_⟩
        rw [e7]
        have := txt_join [10] p
        rw [← this]) fun _ => rfl) (mc_of (fun _ => rfl) rfl rfl) (fun _ => rfl) fun _ => rfl)
      (fun B7 v b7 ⟨t7, e7⟩ => AV.cons (VV.cell (hcell.ext (bb.trans b7).ext) rfl rfl rfl) (fun B8 u b8 e8 => AV.cons SV.lit (fun B9 v9 b9 ⟨t9, e9⟩ => AV.nil fun B10 b10 => by
        subst e7 e8 e9
        exact body_enc (c := cpx (LC c s) scPaths [(Str.ofString "width", s.heap.objs.size + 1)] C) (by show (LC c s).A.depth + 1 < recursionLimit; omega) hh gp.names gp.three hw4 hw8) fun _ => rfl) fun _ => rfl) fun _ => rfl) fun _ => rfl) fun B7 y b7 ⟨ty, ey⟩ => ⟨l ++ [(S (encB w p), ty)], by rw [e1, ey]; simp [strValues], by rw [htk, List.map_append, e2]; simp⟩
  obtain ⟨L, rfl, eL⟩ := hTs
  refine XW.give hca fun B5 b5 hPtL => ?_
  have hPtL : Ls B5 Pt (strValues L) := hPtL
  have bb := b4.trans b5
  have l2 := lk_other (x := Str.ofString "paths") (v := Value.ref Pt) l1
  have l3 : (put m1 (Str.ofString "paths") (.ref Pt)).lookup (Str.ofString "paths") = some (.ref Pt) := lk_same
  generalize put m1 (Str.ofString "paths") (.ref Pt) = m2 at l2 l3
  refine XW.assignOwn (EV.dictNew.mono fun B6 v b6 ⟨T, o, ev, hTn, ho, hD⟩ => ⟨T, isD c.w [], o, ev, hTn, ho, hD, fun hTc b6' => ?_⟩) rfl rfl rfl
  generalize less B6 T = B6 at b6'
  have l4 := lk_other (x := Str.ofString "tree") (v := Value.ref T) l2
  have l5 := lk_other (x := Str.ofString "tree") (v := Value.ref T) l3
  have l6 : (put m2 (Str.ofString "tree") (.ref T)).lookup (Str.ofString "tree") = some (.ref T) := lk_same
  generalize put m2 (Str.ofString "tree") (.ref T) = m3 at l4 l5 l6
  refine XW.assignOwn ((EV.list (R := fun _ vs => vs = []) (AV.nil fun _ _ => rfl) (by rintro _ _ rfl; exact Nat.zero_le _) fun _ _ _ _ e => e).mono fun B7 v b7 r => ?_) rfl rfl rfl
  obtain ⟨Nd, vs, rfl, hnn, ⟨o, ho, hLo⟩, rfl⟩ := r
  refine ⟨Nd, isL [], o, rfl, hnn, ho, hLo, fun hNc b7' => ?_⟩
  generalize less B7 Nd = B7 at b7'
  have bc := bb.trans (b6'.trans b7')
  refine law_zip (Nd := Nd) (T := T) (P := P) (Pt := Pt) H G (hcell.ext bc.ext) (hP.ext bc.ext) (hS.ext bc.ext) ⟨L, hPtL.ext (b6'.trans b7').ext, eL⟩ ⟨lk_other l4, lk_other l5, lk_same, lk_other l6⟩ (Nat.le_trans h249 hTc) hNc
end Mine

end
section
open PySem PySem.W PyProof.Rows
set_option Elab.async false
set_option autoImplicit false
set_option linter.unusedVariables false
set_option maxRecDepth 100000
namespace Mine
theorem law_start {c : Cx} {s s1 : Shared} {B : Heap} {sc : Addr} {xs : List Int} {Q : Flow → Shared → Prop} {E : Value → Shared → Prop} (room : (LC c s).A.depth + 110 < recursionLimit) (hh : (LC c s).A.handled = none) (hfr : ∃ fl, (LC c s).A.frames = some fl) (hu : (LC c s).A.units ≤ 4000) (h249 : 249 ≤ (LC c s).n) (hs : IL B sc xs) (hx : xs.length ≤ 63)
    (F0 : ∀ k, 1 ≤ k → Fm (LC c s) B [kv "script" (.ref sc)] [(s.heap.objs.size + 1, isC none)] { s1 with toks := k }) (q : ∀ s' B' m' own', Bs (LC c s).n B B' → Fm (LC c s) B' m' own' s' → Q (.ret (.bool true)) s') :
    wpAny (Md c.w) (LC c s).A (execs lawB (LC c s).env) Q E s1 := by
  obtain ⟨w, hw4, hw8, ew⟩ : ∃ w : Nat, 4 ≤ w ∧ w ≤ 8 ∧ (4 + xs.sum.fmod 5) = (w : Int) := by
    have h1 : xs.sum.fmod 5 = xs.sum % 5 := Int.fmod_eq_emod_of_nonneg _ (by decide)
    have h2 := Int.emod_nonneg xs.sum (by decide : (5 : Int) ≠ 0)
    have h3 := Int.emod_lt_of_pos xs.sum (by decide : (0 : Int) < 5)
    exact ⟨(4 + xs.sum % 5).toNat, by omega, by omega, by omega⟩
  have H : LH c s w := ⟨room, hh, hfr, hu, hw4, hw8⟩
  refine wpAny_execs_cons (rest := lawB.drop 1) (wpAny_Assign_Name (wpAny_BinOp (wpAny_Constant_int ?_)) rfl)
  have F1 := F0 (s1.toks + 1) (Nat.le_add_left _ _)
  have hr : ∀ (p1 p2 p3 p4 p5 : Pos) (k : Nat), EV (LC c s) B [kv "script" (.ref sc)] [(s.heap.objs.size + 1, isC none)] (.BinOp (.Call (.Name (Str.ofString "sum") p1) [.Name (Str.ofString "script") p2] [] p3) .Mod (.Constant (.int 5) k p4) p5) fun _ v => ∃ t, v = .int (xs.sum.fmod 5) t := fun _ _ _ _ _ _ =>
    IV.mod (EV.callB (VV.bl (bl_sum _) rfl rfl rfl rfl) (AV.cons (VV.loc rfl rfl rfl) (fun B1 v b1 ev => AV.nil fun B2 b2 => by subst ev; exact gv_sum hh (hs.ext (b1.trans b2).ext)) fun _ => rfl) (fun _ => rfl) fun _ => rfl) IV.lit (by decide)
  refine ((hr _ _ _ _ _ _).run B (Bs.refl _ _)).run _ _ _ F1 fun v s2 B2 b2 F2 ⟨t2, e2⟩ => ?_
  subst e2
  refine (gv_add_int (c := LC c s) (x := 4) (y := xs.sum.fmod 5)).run s2 _ _ F2 fun v s3 B3 b3 F3 ⟨t3, e3⟩ => ?_
  rw [ew] at e3
  subst e3
  obtain ⟨o, ho, hd⟩ := F3.ow _ (.head _)
  have hcl : s3.heap.IsCell (s.heap.objs.size + 1) none := ⟨o, ho, hd⟩
  refine wpAny_storeName_cell rfl rfl (c := s.heap.objs.size + 1) rfl hcl fun h' hc' hsb => ?_
  obtain ⟨o', ho', hd'⟩ := hc'
  have F4 := F3.upd (s' := { s3 with heap := h' }) (P := isC none) (.head _) hsb ho' (Q := isC (some (.int (w : Nat) t3))) hd' rfl rfl (Nat.le_refl _)
  have F4 : Fm (LC c s) B3 [kv "script" (.ref sc)] [(s.heap.objs.size + 1, isC (some (.int (w : Nat) t3)))] { s3 with heap := h' } := by
    have e : setO [(s.heap.objs.size + 1, isC none)] (s.heap.objs.size + 1) (isC (some (.int (w : Nat) t3))) = [(s.heap.objs.size + 1, isC (some (.int (w : Nat) t3)))] := by simp [setO]
    rw [e] at F4; exact F4
  exact (law_rest H h249 (hs.ext (b2.trans b3).ext) hx).run _ _ _ F4 fun f s4 B4 m4 own4 b4 F5 e => by
    subst e
    exact q s4 B4 m4 own4 (b2.trans (b3.trans b4)) F5
end Mine

end
section
open PySem PySem.W PyProof.Rows
set_option Elab.async false
set_option autoImplicit false
set_option linter.unusedVariables false
set_option maxRecDepth 100000
namespace Mine
theorem law_call {w : World} {A : Around} {s : Shared} {l : Addr} {xs : List Int} {Q : Value → Shared → Prop} {E : Value → Shared → Prop} (gl : Gl (KK w) s.heap) (hl : IL s.heap l xs) (hx : xs.length ≤ 63) (room : A.depth + 112 < recursionLimit) (hh : A.handled = none) (hfr : ∃ fl, A.frames = some fl) (hu : A.units ≤ 3000)
    (q : ∀ s', (∀ b o, s.heap.get? b = some o → s'.heap.get? b = some o) → s'.gens = s.gens → s'.os = s.os → Q (.bool true) s') : wpAny (Md w) A (call (.ref 248) [.ref l]) Q E s := by
  obtain ⟨o, ho, hd⟩ := (fn_law w).get gl.k
  have h249 : 249 ≤ s.heap.objs.size := Heap.lt_size ho
  have hbind : bindArgs lawFd ⟨[.ref l], []⟩ = Pure.pure [kv "script" (.ref l)] := rfl
  have hclo : lawFd.closure = [] := rfl
  have hloc : ∀ x ∈ [kv "script" (.ref l)], lawFd.scope.names.lookup x.1 = some .local := locs (by rfl)
  refine wpAny_call (codeAny_call_function (body := lawB) (by omega) ho hd rfl rfl rfl (codeRec_of gl.k (fn_law w).code) ?_)
  rw [hbind, hclo]
  refine wpAny_pure (wpAny_newFunctionEnv_cells rfl (fun x hx => .inl (hloc x hx)) fun env he s' x => ?_)
  subst he
  obtain ⟨⟨⟨h₀, tk, rfl⟩, hns, hk₀, _⟩, hcell, hapart, habove⟩ := x
  refine ⟨gl.lim.keeps hk₀, codeAny_func ?_⟩
  have hL' : bindL (callEnvC lawFd s.heap.objs.size 248).kindOf [kv "script" (.ref l)] (fun _ => none) = fun x => [kv "script" (.ref l)].reverse.lookup x := bindL_one rfl
  have hC' : ∀ n, bindC (callEnvC lawFd s.heap.objs.size 248).kindOf [kv "script" (.ref l)] (fun _ => none) n = none := fun n => bindC_one rfl
  have hns' : h₀.Ns s.heap.objs.size (fun x => [kv "script" (.ref l)].lookup x) := by
    have : h₀.Ns s.heap.objs.size (bindL (callEnvC lawFd s.heap.objs.size 248).kindOf [kv "script" (.ref l)] fun _ => none) := hns
    rwa [hL'] at this
  obtain ⟨oc, hoc, hdc⟩ := hcell (Str.ofString "width") (s.heap.objs.size + 1) rfl
  have hdc : oc.data = .cell none := hdc.trans (congrArg _ (hC' _))
  show wpAny _ (A.deeper (callEnvC lawFd s.heap.objs.size 248)) (execs lawB (callEnvC lawFd s.heap.objs.size 248)) _ _ _
  refine law_start (c := ⟨w, A, s.heap, s, fun _ => False, callEnvC lawFd 0 248⟩) (s := s) (B := s.heap) (sc := l) (xs := xs) (by show A.depth + 1 + 110 < recursionLimit; omega) hh ?_ (by show A.units + 3 ≤ 4000; omega) h249 hl hx (fun k hk => ?_) fun s' B' m' own' b F => ?_
  · obtain ⟨fl, e⟩ := hfr
    exact ⟨callEnvC lawFd s.heap.objs.size 248 :: fl, by show A.frames.map _ = _; rw [e]; rfl⟩
  · refine ⟨gl, Ext.refl _, Nat.le_refl _, fun b o _ e => hk₀ b o e, Nat.le_of_lt hns'.lt, fun b o e => hk₀ _ _ e, hns', fun p hp => ?_, Heap.get?_none_of_le (Nat.le_refl _), Nat.le_refl _, fun p hp => ?_, by simp, rfl, rfl, hk⟩
    · simp only [List.mem_cons, List.not_mem_nil, or_false] at hp
      subst hp
      exact ⟨oc, hoc, hdc⟩
    · simp only [List.mem_cons, List.not_mem_nil, or_false] at hp
      subst hp
      exact ⟨Heap.get?_none_of_le (Nat.le_succ _), Nat.succ_ne_self _, .inl (Nat.le_succ _)⟩
  · exact q s' (fun b o e => F.keep b o (fun h => h) e) F.gens F.os
end Mine

end
open PySem PySem.W PyProof.Rows
set_option Elab.async false
set_option autoImplicit false
set_option linter.unusedVariables false
set_option maxRecDepth 100000
namespace Mine
theorem g_law (w : World) : nsIn (KK w) mainGlobals "law" = some (some (.ref 248)) := by kernel_rfl
theorem ints_split : ∀ {vs : List Value} {xs : List Int}, IntsAre vs xs → ∃ l : List (Int × Tok), vs = (l.map fun p => .int p.1 p.2) ∧ l.map (·.1) = xs
  | _, _, .nil => ⟨[], rfl, rfl⟩
  | _, _, .cons n t h => by
    obtain ⟨l, e1, e2⟩ := ints_split h
    exact ⟨(n, t) :: l, by rw [e1]; rfl, by rw [← e2]; rfl⟩
theorem well_list {P : Params} {h : Heap} {a : Addr} {d : List WData} (x : Well P h (.ref a) (.list d)) : ∃ vs : List Value, h.get? a = some { cls := .type "list", data := .seq vs.toArray } := by
  cases x with
  | list h1 h2 => exact ⟨_, h1⟩
theorem script_il {P : Params} {h : Heap} {a : Addr} {vs : List Value} {xs : List Int} (hl : h.IsList a vs.toArray) (hw : Well P h (.ref a) (ofPy (.list (xs.map .int)))) (hI : IntsAre vs xs) : IL h a xs := by
  obtain ⟨us, hu⟩ := well_list (d := _) hw
  obtain ⟨o, ho, _, n, hd⟩ := hl
  rw [hu] at ho
  cases ho
  injection hd with e1 e2
  obtain ⟨l, el, ex⟩ := ints_split hI
  refine ⟨l, ⟨_, hu, 0, ?_⟩, ex⟩
  rw [e1, el]
end Mine
set_option maxHeartbeats 4000000 in
theorem PySem.Challenge.cw_qw0067_01_holds : PySem.Challenge.rw_qw0067_01.Holds := by
  w_on
  refine holds_law Mine.said_ok fun said => ?_
  refine holds_open (q := Mine.viewL PySem.Challenge.pw_qw0067_01) (loose := Mine.looseL) (Xt := fun s => xlAt (Mine.viewL PySem.Challenge.pw_qw0067_01) [] s && recOk [] s) (XP := XL (Mine.viewL PySem.Challenge.pw_qw0067_01) []) (Yf := Hook.obs Mine.HK) (Ya := Hook.val Mine.HK) (YP := Hook.says Mine.HK) (N := 40000) Mine.top_left (Hook.of Mine.HK) (Hook.keeps Mine.HK) (fun s e => xl_of s (Bool.and_eq_true_iff.mp e).1) XL.keeps (by rfl) (by rfl) (by rfl) (fun s e => recFacts_of (Bool.and_eq_true_iff.mp e).2) (by rfl) said (by decide +kernel) ⟨rfl, rfl, rfl, rfl, rfl, by decide +kernel⟩ ?hw ?hc
  case hw => w_witness2
  case hc =>
    intro w s₀ s₁ mg mb G Y fa o pm cd doc dV kV ho hdt hcd hD hmg hg args vals as hpre hlay hrd hwl hlo
    have KX := kIn_of Y
    refine Ground.open G ?_
    intro T B D TE TW
    clear hdt hcd hD B D TE TW G Y
    have hmg' : mg "law" = some (.ref fa) := hmg
    rw [mg_of KX T.g (Mine.g_law w)] at hmg'
    cases hmg'
    clear hmg
    have gl : Mine.Gl (Mine.KK w) s₁.heap := ⟨KX, ⟨mg, T.g⟩, ⟨mb, T.b, T.builtins⟩, T.nolimit, T.seer (by kernel_rfl)⟩
    clear T KX
    wrow_args hpre hlay hrd hwl hlo
    rename Heap.IsList _ _ _ => hL1
    rename Well _ _ _ _ => hW1
    rename IntsAre _ _ => hI1
    rename ¬ (_ : Int) < _ => hc1
    refine Mine.law_call gl (Mine.script_il hL1 hW1 hI1) (by omega) (by decide) rfl ⟨[], rfl⟩ (by decide) fun s' hk hgens hos => ?_
    refine ⟨.inl ⟨.bool true, .bool true, [], rfl, fun _ => rfl, .bool true, ?_, fun _ => ⟨List.nodup_nil, fun _ h => nomatch h⟩⟩, .of_keep hk, hos, .of_eq (hgens.trans hg)⟩
    wrow_post
