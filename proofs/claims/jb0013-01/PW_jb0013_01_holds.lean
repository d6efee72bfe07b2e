import PyProof.Rows.All
import Wide.All
import OpenK.AllK
import Wide.FinOn
import PySem.Challenge.RW_jb0013_01
set_option Elab.async false
set_option linter.unusedSimpArgs false
set_option rowWalk.seconds 0
section
open PySem PySem.W PyProof.Rows
namespace JB
def pick51 : List Stmt → List Stmt
  | _ :: a1 :: a2 :: a3 :: _ :: a5 :: a6 :: a7 :: a8 :: a9 :: a10 :: a11 :: a12 :: a13 :: a14 :: _ :: a16 :: a17 :: _ :: a19 :: a20 :: a21 :: a22 :: a23 :: a24 :: a25 :: a26 :: a27 :: a28 :: a29 :: a30 :: a31 :: a32 :: a33 :: a34 :: a35 :: a36 :: a37 :: a38 :: a39 :: a40 :: a41 :: a42 :: a43 :: _ :: a45 :: _ :: _ :: _ :: _ :: _ :: _ :: _ :: _ :: _ :: _ :: _ :: _ :: a58 :: a59 :: a60 :: a61 :: a62 :: a63 :: a64 :: a65 :: a66 :: a67 :: [] => a1 :: a2 :: a3 :: a5 :: a6 :: a7 :: a8 :: a9 :: a10 :: a11 :: a12 :: a13 :: a14 :: a16 :: a17 :: a19 :: a20 :: a21 :: a22 :: a23 :: a24 :: a25 :: a26 :: a27 :: a28 :: a29 :: a30 :: a31 :: a32 :: a33 :: a34 :: a35 :: a36 :: a37 :: a38 :: a39 :: a40 :: a41 :: a42 :: a43 :: a45 :: a58 :: a59 :: a60 :: a61 :: a62 :: a63 :: a64 :: a65 :: a66 :: a67 :: []
  | _ => []
def vw : Program := { PySem.Challenge.rw_jb0013_01.row.toRowW.prog with main := { PySem.Challenge.rw_jb0013_01.row.toRowW.prog.main with body := pick51 PySem.Challenge.rw_jb0013_01.row.toRowW.prog.main.body } }
theorem and7 : ∀ k a b c d e f : Bool, k = true → (a && b && c && d && e && f) = true → (k && a && b && c && d && e && f) = true := by decide
abbrev PP : Program := PySem.Challenge.rw_jb0013_01.row.prog
abbrev LL : List Str := [Str.ofString "to_jd_gregorian", Str.ofString "to_jd_hebrew", Str.ofString "hanukkah", Str.ofString "purim", Str.ofString "rosh_hashanah", Str.ofString "yom_kippur", Str.ofString "passover", Str.ofString "shavuot", Str.ofString "sukkot", Str.ofString "shemini_azeret", Str.ofString "lag_baomer", Str.ofString "tu_beshvat", Str.ofString "tisha_bav"]
local macro_rules | `(tactic| o_head $H) => `(tactic| (refine' (fun both : LeftO PySem.Challenge.rw_jb0013_01.row.prog JB.vw [Str.ofString "to_jd_gregorian", Str.ofString "to_jd_hebrew", Str.ofString "hanukkah", Str.ofString "purim", Str.ofString "rosh_hashanah", Str.ofString "yom_kippur", Str.ofString "passover", Str.ofString "shavuot", Str.ofString "sukkot", Str.ofString "shemini_azeret", Str.ofString "lag_baomer", Str.ofString "tu_beshvat", Str.ofString "tisha_bav"] (fun s => xlAt JB.vw [] s && recOk (RowW.records PySem.Challenge.rw_jb0013_01.row.toRowW) s) (Hook.obs $H) (Hook.val $H) 2992 ∧ _ => holds_open (q := JB.vw) (loose := [Str.ofString "to_jd_gregorian", Str.ofString "to_jd_hebrew", Str.ofString "hanukkah", Str.ofString "purim", Str.ofString "rosh_hashanah", Str.ofString "yom_kippur", Str.ofString "passover", Str.ofString "shavuot", Str.ofString "sukkot", Str.ofString "shemini_azeret", Str.ofString "lag_baomer", Str.ofString "tu_beshvat", Str.ofString "tisha_bav"]) (Xt := (fun s => xlAt JB.vw [] s && recOk (RowW.records PySem.Challenge.rw_jb0013_01.row.toRowW) s)) (XP := XL JB.vw []) (Yf := Hook.obs $H) (Ya := Hook.val $H) (YP := Hook.says $H) (N := 2992) (And.left both) (Hook.of $H) (Hook.keeps $H) (fun s e => xl_of s (Bool.and_eq_true_iff.mp e).1) XL.keeps (by rfl) (by rfl) (by rfl) (fun s e => recFacts_of (Bool.and_eq_true_iff.mp e).2) (by rfl) (by first | assumption | decide +kernel) (by decide +kernel) ⟨rfl, rfl, rfl, rfl, rfl, by decide +kernel⟩ ?hw (And.right both)) ?hc))
set_option maxRecDepth 100000 in
set_option maxHeartbeats 8000000 in
open_top hd for PySem.Challenge.rw_jb0013_01
-- a look by the kit's quick twins lays the view's own twin
theorem vq : chainsOk vw = true := by k_qdec
-- the heap behind the top
noncomputable def nth : Nat → Frag → Obj
  | _, [] => default
  | 0, p :: _ => p.2
  | n + 1, _ :: r => nth n r
noncomputable def kO (P : Params) (n : Nat) : Obj := nth n (hd.heap_39 P)
def tmpl (o : Obj) : Obj := match o.data with
  | .func f => { cls := .none, data := .func { name := f.name, qualname := f.qualname, params := f.params, body := f.body, scope := f.scope, globals := 0, closure := [], defaults := .none, kwdefaults := .none } }
  | _ => default
def oE : Obj := { cls := .none, data := .fields #[] }
def o11 : Obj := { cls := .type "tuple", data := .seq #[] }
def o12 : Obj := { cls := .none, data := .fields #[.int 2 0, .int 0 0, .ref 20, .int 4 0, .int 0 0, .ref 27, .int 6 0, .int 0 0, .ref 34, .int 18 0, .int 0 0, .ref 42, .int 26 0, .int 0 0, .ref 49, .int 36 0, .int 0 0, .ref 56, .int 76 0, .int 0 0, .ref 63, .int 78 0, .int 0 0, .ref 70, .int 82 0, .int 0 0, .ref 77, .int 89 0, .int 0 0, .ref 84, .int 98 0, .int 0 0, .ref 91, .int 100 0, .int 0 0, .ref 98, .int 112 0, .int 0 0, .ref 105, .int 114 0, .int 0 0, .ref 112, .int 127 0, .int 0 0, .ref 119, .int 139 0, .int 0 0, .ref 127, .int 144 0, .int 0 0, .ref 135, .int 152 0, .int 0 0, .ref 143, .int 157 0, .int 0 0, .ref 151, .int 162 0, .int 0 0, .ref 159, .int 167 0, .int 0 0, .ref 167, .int 172 0, .int 0 0, .ref 175, .int 177 0, .int 0 0, .ref 183, .int 182 0, .int 0 0, .ref 191, .int 187 0, .int 0 0, .ref 199, .int 192 0, .int 0 0, .ref 207, .int 200 0, .int 0 0, .ref 214, .int 202 0, .int 0 0, .ref 221, .int 204 0, .int 0 0, .ref 228, .int 206 0, .int 0 0, .ref 233, .int 219 0, .int 0 0, .ref 240, .int 229 0, .int 0 0, .ref 247, .int 232 0, .int 0 0, .ref 254, .int 245 0, .int 0 0, .ref 261, .int 251 0, .int 0 0, .ref 268, .int 273 0, .int 0 0, .ref 275] }
def o13 : Obj := { cls := .type "code", data := .fields #[.str (Str.ofString "<module>") 182, .str (Str.ofString "<module>") 183, .str (Str.ofString "/claim/cut.py") 184, .int 1 0, .int 0 0, .int 0 0, .int 0 0, .int 0 0, .ref 11, .bool false, .int 181 0, .ref 12, .none, .none, .none, .none, .int 185 0, .int 1 0, .str (Str.ofString "/claim/cut.py") 186] }
def o14 : Obj := { cls := .type "frame", slots := #[some (.ref 13), some (.ref 3), some (.ref 3), none, some (.str (Str.ofString "__main__") 164), none, some (.ref 0)] }
noncomputable def h1 (P : Params) : Heap := ⟨⟨[boot_o_0 P, boot_o_1 P, kO P 0, kO P 1, boot_o_4 P, boot_o_5 P, boot_o_6 P, boot_o_7 P, boot_o_8 P, boot_o_9 P, boot_o_10 P, o11, o12, o13, o14, kO P 2, oE, kO P 3, kO P 4, tmpl (kO P 6), kO P 5, kO P 6, kO P 7, oE, kO P 8, kO P 9, tmpl (kO P 11), kO P 10, kO P 11, kO P 12, oE, kO P 13, kO P 14, tmpl (kO P 16), kO P 15, kO P 16, kO P 17, kO P 18, oE, kO P 19, kO P 20, tmpl (kO P 22), kO P 21, kO P 22, kO P 23, oE, kO P 24, kO P 25, tmpl (kO P 27), kO P 26, kO P 27, kO P 28, oE, kO P 29, kO P 30, tmpl (kO P 32), kO P 31, kO P 32, kO P 33, oE, kO P 34, kO P 35, tmpl (kO P 37), kO P 36, kO P 37, kO P 38, oE, kO P 39, kO P 40, tmpl (kO P 42), kO P 41, kO P 42, kO P 43, oE, kO P 44, kO P 45, tmpl (kO P 47), kO P 46, kO P 47, kO P 48, oE, kO P 49, kO P 50, tmpl (kO P 52), kO P 51, kO P 52, kO P 53, oE, kO P 54, kO P 55, tmpl (kO P 57), kO P 56, kO P 57, kO P 58, oE, kO P 59, kO P 60, tmpl (kO P 62), kO P 61, kO P 62, kO P 63, oE, kO P 64, kO P 65, tmpl (kO P 67), kO P 66, kO P 67, kO P 68, oE, kO P 69, kO P 70, tmpl (kO P 72), kO P 71, kO P 72, kO P 73, oE, kO P 74, kO P 75, tmpl (kO P 77), kO P 76, kO P 77, kO P 78, kO P 79, oE, kO P 80, kO P 81, tmpl (kO P 83), kO P 82, kO P 83, kO P 84, kO P 85, oE, kO P 86, kO P 87, tmpl (kO P 89), kO P 88, kO P 89, kO P 90, kO P 91, oE, kO P 92, kO P 93, tmpl (kO P 95), kO P 94, kO P 95, kO P 96, kO P 97, oE, kO P 98, kO P 99, tmpl (kO P 101), kO P 100, kO P 101, kO P 102, kO P 103, oE, kO P 104, kO P 105, tmpl (kO P 107), kO P 106, kO P 107, kO P 108, kO P 109, oE, kO P 110, kO P 111, tmpl (kO P 113), kO P 112, kO P 113, kO P 114, kO P 115, oE, kO P 116, kO P 117, tmpl (kO P 119), kO P 118, kO P 119, kO P 120, kO P 121, oE, kO P 122, kO P 123, tmpl (kO P 125), kO P 124, kO P 125, kO P 126, kO P 127, oE, kO P 128, kO P 129, tmpl (kO P 131), kO P 130, kO P 131, kO P 132, kO P 133, oE, kO P 134, kO P 135, tmpl (kO P 137), kO P 136, kO P 137, kO P 138, kO P 139, oE, kO P 140, kO P 141, tmpl (kO P 143), kO P 142, kO P 143, kO P 144, oE, kO P 145, kO P 146, tmpl (kO P 148), kO P 147, kO P 148, kO P 149, oE, kO P 150, kO P 151, tmpl (kO P 153), kO P 152, kO P 153, kO P 154, oE, kO P 155, kO P 156, tmpl (kO P 158), kO P 157, kO P 158, kO P 159, oE, tmpl (kO P 161), kO P 160, kO P 161, kO P 162, oE, kO P 163, kO P 164, tmpl (kO P 166), kO P 165, kO P 166, kO P 167, oE, kO P 168, kO P 169, tmpl (kO P 171), kO P 170, kO P 171, kO P 172, oE, kO P 173, kO P 174, tmpl (kO P 176), kO P 175, kO P 176, kO P 177, oE, kO P 178, kO P 179, tmpl (kO P 181), kO P 180, kO P 181, kO P 182, oE, kO P 183, kO P 184, tmpl (kO P 186), kO P 185, kO P 186, kO P 187, oE, kO P 188, kO P 189, tmpl (kO P 191), kO P 190, kO P 191]⟩, (boot_heap P).life⟩
noncomputable abbrev st1 (w : World) (os : OsState) : Shared := ⟨h1 w.params, #[], boot_drawn, 589, os⟩
set_option maxRecDepth 100000
set_option maxHeartbeats 8000000
theorem top_run (w : World) (os : OsState) : topRun treeTable PP w 11 (some (.ref 6)) 2992 ⟨boot_heap w.params, #[], boot_drawn, boot_toks, os⟩ (topStub PP) = some (st1 w os) := by
  rw [PySem.W.Fast.te14082659384304107361, PySem.W.Fast.te14364793385576792824]
  kernel_rfl
theorem top_0 (w : World) (os : OsState) : (staticsOk (importedModules PP.main.body) (boot_heap w.params) (h1 w.params) && namesBound PP (h1 w.params) && gensDone (st1 w os) && laidKept (boot_heap w.params) (h1 w.params)) = true := by
  delta PP
  rw [PySem.W.Fast.te5923862056798008813, PySem.W.Fast.te17867315778337812907]
  kernel_rfl
theorem top_a (w : World) (os : OsState) : ((seen ((recsOf vw).map (·.name)) (ownsOf vw) [] { st1 w os with gens := #[] }, (h1 w.params).bltView)) = (expectedOf vw, bltViewBooted) := by
  rw [PySem.W.Fast.te5809845795292041183, PySem.W.Fast.te5160383126252970620, PySem.W.Fast.te3399658132070893891, PySem.W.Fast.te5991557255702980513]
  kernel_rfl
theorem top_b (w : World) (os : OsState) : ((h1 w.params).keysOk (looseW vw LL) ((recsOf vw).map (·.name)) ((litsOf vw).map (·.1)) ((clssOf vw (looseW vw LL)).map (·.name))) = true := by
  delta LL
  rw [PySem.W.Fast.te5809845795292041183, PySem.W.Fast.te10880121769531294198, PySem.W.Fast.te821141287760084731, PySem.W.Fast.te3399658132070893891, PySem.W.Fast.te7409074990110511671, PySem.W.Fast.te13664370479719496447]
  kernel_rfl
theorem top_c (w : World) (os : OsState) : (((h1 w.params).accountedOkI (importedModules PP.main.body) && (h1 w.params).isNs mainGlobals && (h1 w.params).isNs builtinsNs && tablesOk vw (h1 w.params) && (fun s => xlAt JB.vw [] s && recOk (RowW.records PySem.Challenge.rw_jb0013_01.row.toRowW) (st1 w os)) (st1 w os) && (if true then (st1 w os).gens.size == 0 else !leftWithCleanup (st1 w os).gens), pinSeenD vw (drecsOf vw) (st1 w os), plainSeenE vw (looseW vw LL) (st1 w os), plainSeenD vw LL (st1 w os))) = (true, pinGoodD (drecsOf vw), plainGoodE vw (looseW vw LL), plainGoodD vw LL) := by
  delta PP LL
  rw [PySem.W.Fast.te17867315778337812907, PySem.W.Fast.te5809845795292041183, PySem.W.Fast.te14722251495701143533, PySem.W.Fast.te10994771534591457954, PySem.W.Fast.te5923862056798008813, PySem.W.Fast.te16090120013241838585, PySem.W.Fast.te2386780881361962483, PySem.W.Fast.te11698064438423848299, PySem.W.Fast.te3247288618530077131, PySem.W.Fast.te821141287760084731]
  kernel_rfl
theorem top_d (w : World) (os : OsState) : ((tabsOk vw (st1 w os), wideSeen vw (st1 w os), clsSeenW vw LL (st1 w os))) = (true, wideGood vw, clsGoodW vw LL) := by
  delta LL
  rw [PySem.W.Fast.te5809845795292041183, PySem.W.Fast.te479339242167458305, PySem.W.Fast.te7317090234206586261, PySem.W.Fast.te7369524293546568484]
  kernel_rfl
theorem top_e (w : World) : ([2, 3, 15, 17, 18, 20, 21, 22, 24, 25, 27, 28, 29, 31, 32, 34, 35, 36, 37, 39, 40, 42, 43, 44, 46, 47, 49, 50, 51, 53, 54, 56, 57, 58, 60, 61, 63, 64, 65, 67, 68, 70, 71, 72, 74, 75, 77, 78, 79, 81, 82, 84, 85, 86, 88, 89, 91, 92, 93, 95, 96, 98, 99, 100, 102, 103, 105, 106, 107, 109, 110, 112, 113, 114, 116, 117, 119, 120, 121, 122, 124, 125, 127, 128, 129, 130, 132, 133, 135, 136, 137, 138, 140, 141, 143, 144, 145, 146, 148, 149, 151, 152, 153, 154, 156, 157, 159, 160, 161, 162, 164, 165, 167, 168, 169, 170, 172, 173, 175, 176, 177, 178, 180, 181, 183, 184, 185, 186, 188, 189, 191, 192, 193, 194, 196, 197, 199, 200, 201, 202, 204, 205, 207, 208, 209, 211, 212, 214, 215, 216, 218, 219, 221, 222, 223, 225, 226, 228, 229, 230, 233, 234, 235, 237, 238, 240, 241, 242, 244, 245, 247, 248, 249, 251, 252, 254, 255, 256, 258, 259, 261, 262, 263, 265, 266, 268, 269, 270, 272, 273, 275, 276] : List Addr).map (h1 w.params).get? = (hd.heap_39 w.params).map fun p => some p.2 := by kernel_rfl
theorem top_size (w : World) : ((boot_heap w.params).isNs mainGlobals && (#[] : Array GenState).size == 0, (boot_heap w.params).objs.size, (boot_heap w.params).nsMap mainGlobals "__annotations__") = (true, 11, some (.ref 6)) := by kernel_rfl
theorem left : LeftO PP vw LL (fun s => xlAt JB.vw [] s && recOk (RowW.records PySem.Challenge.rw_jb0013_01.row.toRowW) s) (fun s : Shared => ([2, 3, 15, 17, 18, 20, 21, 22, 24, 25, 27, 28, 29, 31, 32, 34, 35, 36, 37, 39, 40, 42, 43, 44, 46, 47, 49, 50, 51, 53, 54, 56, 57, 58, 60, 61, 63, 64, 65, 67, 68, 70, 71, 72, 74, 75, 77, 78, 79, 81, 82, 84, 85, 86, 88, 89, 91, 92, 93, 95, 96, 98, 99, 100, 102, 103, 105, 106, 107, 109, 110, 112, 113, 114, 116, 117, 119, 120, 121, 122, 124, 125, 127, 128, 129, 130, 132, 133, 135, 136, 137, 138, 140, 141, 143, 144, 145, 146, 148, 149, 151, 152, 153, 154, 156, 157, 159, 160, 161, 162, 164, 165, 167, 168, 169, 170, 172, 173, 175, 176, 177, 178, 180, 181, 183, 184, 185, 186, 188, 189, 191, 192, 193, 194, 196, 197, 199, 200, 201, 202, 204, 205, 207, 208, 209, 211, 212, 214, 215, 216, 218, 219, 221, 222, 223, 225, 226, 228, 229, 230, 233, 234, 235, 237, 238, 240, 241, 242, 244, 245, 247, 248, 249, 251, 252, 254, 255, 256, 258, 259, 261, 262, 263, 265, 266, 268, 269, 270, 272, 273, 275, 276] : List Addr).map s.heap.get?) (fun w => (hd.heap_39 w.params).map fun p => some p.2) 2992 :=
  LeftO.of_pieces (H₁ := h1) (boot_open rfl rfl fun _ => rfl) top_size top_run rfl fun w => funext fun os =>
    Prod.ext (top_0 w os) (Prod.ext (Prod.ext (congrArg (·.1) (top_a w os)) (Prod.ext (congrArg (·.2) (top_a w os)) (Prod.ext (and7 _ _ _ _ _ _ _ (top_b w os) (congrArg (·.1) (top_c w os))) (Prod.ext (congrArg (·.1) (top_d w os))
      (Prod.ext (congrArg (·.2.1) (top_c w os)) (Prod.ext (congrArg (·.2.2.1) (top_c w os)) (Prod.ext (congrArg (·.2.2.2) (top_c w os)) (Prod.ext (congrArg (·.2.1) (top_d w os)) (congrArg (·.2.2) (top_d w os)))))))))) (top_e w))
end JB
end
section
namespace JB
-- the program's side
def isleap (y : Int) : Bool := decide (y % 4 = 0 ∧ (¬ y % 100 = 0 ∨ y % 400 = 0))
def gdim (y m : Int) : Int := if m = 2 then (if isleap y = true then 29 else 28) else if m = 4 ∨ m = 6 ∨ m = 9 ∨ m = 11 then 30 else 31
def gadj (y m : Int) : Int := if m ≤ 2 then 0 else if isleap y = true then -1 else -2
def gto (y m d : Int) : Int := 1721425 + 365 * (y - 1) + (y - 1) / 4 + -((y - 1) / 100) + (y - 1) / 400 + ((367 * m - 362) / 12 + gadj y m + d)
def fcent (j : Int) : Int := (j - 1721426) % 146097 / 36524
def fyi (j : Int) : Int := (j - 1721426) % 146097 % 36524 % 1461 / 365
def fy0 (j : Int) : Int := (j - 1721426) / 146097 * 400 + fcent j * 100 + (j - 1721426) % 146097 % 36524 / 1461 * 4 + fyi j
def fy (j : Int) : Int := if fcent j = 4 ∨ fyi j = 4 then fy0 j else fy0 j + 1
def fyd (j : Int) : Int := j - gto (fy j) 1 1
def fadj (j : Int) : Int := if fyd j < 58 + (if isleap (fy j) = true then 1 else 0) then 0 else if isleap (fy j) = true then 1 else 2
def fm (j : Int) : Int := ((fyd j + fadj j) * 12 + 373) / 367
def fd (j : Int) : Int := j - gto (fy j) (fm j) 1 + 1
def hleap (y : Int) : Bool := decide ((y * 7 + 1) % 19 < 7)
def hmonths (y : Int) : Int := if hleap y = true then 13 else 12
def dday (y : Int) : Int := (235 * y - 234) / 19 * 29 + (12084 + 13753 * ((235 * y - 234) / 19)) / 25920
def delay1 (y : Int) : Int := if 3 * (dday y + 1) % 7 < 3 then dday y + 1 else dday y
def delay2 (y : Int) : Int := if delay1 (y + 1) - delay1 y = 356 then 2 else if delay1 y - delay1 (y - 1) = 382 then 1 else 0
def mid (j : Int) : Int := if 0 < j then j else j + 1
def hny (y : Int) : Int := mid (347996 + delay1 y + delay2 y + 1 + 1)
def hyd (y : Int) : Int := hny (y + 1) - hny y
def hml (y m : Int) : Int := if m = 2 ∨ m = 4 ∨ m = 6 ∨ m = 10 ∨ m = 13 then 29 else if m = 12 ∧ ¬ hleap y = true then 29 else if m = 8 ∧ ¬ hyd y % 10 = 5 then 29 else if m = 9 ∧ hyd y % 10 = 3 then 29 else 30
-- the law's side
def llong (y : Int) : Bool := let p := (y - 1) % 19 + 1; decide (p = 3 ∨ p = 6 ∨ p = 8 ∨ p = 11 ∨ p = 14 ∨ p = 17 ∨ p = 19)
def one (a p : Int) : Int := if a ≤ p then 1 else 0
def lcount (p : Int) : Int := one 3 p + one 6 p + one 8 p + one 11 p + one 14 p + one 17 p + one 19 p
def lmoons (y : Int) : Int := 235 * ((y - 1) / 19) + 12 * ((y - 1) % 19) + lcount ((y - 1) % 19)
def ltot (y : Int) : Int := 5604 + lmoons y * 765433
def lday (y : Int) : Int := ltot y / 25920
def lparts (y : Int) : Int := ltot y % 25920
def lday1 (y : Int) : Int :=
  if 19440 ≤ lparts y then lday y + 1
  else if lday y % 7 = 1 ∧ 9924 ≤ lparts y ∧ ¬ llong y = true then lday y + 1
  else if lday y % 7 = 0 ∧ 16789 ≤ lparts y ∧ llong (y - 1) = true then lday y + 1
  else lday y
def lny (y : Int) : Int := if lday1 y % 7 = 2 ∨ lday1 y % 7 = 4 ∨ lday1 y % 7 = 6 then 347998 + (lday1 y + 1) else 347998 + lday1 y
def lspan (y : Int) : Int := lny (y + 1) - lny y
def lfirst (y : Int) : Int := 2451545 + 146097 * ((y - 2000) / 400) + 365 * ((y - 2000) % 400) + ((y - 2000) % 400 + 3) / 4 - (if 0 < (y - 2000) % 400 - 1 then (y - 2000) % 400 - 1 else 0) / 100

theorem nat_of {x : Int} {n : Int} (h0 : 0 ≤ x) (h1 : x < n) : ∃ k : Nat, (k : Int) < n ∧ x = k := ⟨x.toNat, by rw [Int.toNat_of_nonneg h0]; exact h1, (Int.toNat_of_nonneg h0).symm⟩
theorem nat_mod (y : Int) {n : Int} (hn : 0 < n) : ∃ k : Nat, (k : Int) < n ∧ y % n = k := nat_of (Int.emod_nonneg _ (Int.ne_of_gt hn)) (Int.emod_lt_of_pos _ hn)
theorem moons_fin : ∀ p : Nat, p < 19 → 12 * (p : Int) + lcount p = (235 * (p : Int) + 1) / 19 := by decide
theorem moons_a (y : Int) : (235 * y - 234) / 19 = 235 * ((y - 1) / 19) + (235 * ((y - 1) % 19) + 1) / 19 := by omega
theorem moons_eq (y : Int) : lmoons y = (235 * y - 234) / 19 := by
  unfold lmoons
  rw [moons_a]
  obtain ⟨p, hp, e⟩ := nat_mod (y - 1) (show (0 : Int) < 19 by decide)
  rw [e, Int.add_assoc, moons_fin p (Int.ofNat_lt.mp hp)]

theorem llong_fin : ∀ n : Nat, n < 19 → (decide ((n : Int) + 1 = 3 ∨ (n : Int) + 1 = 6 ∨ (n : Int) + 1 = 8 ∨ (n : Int) + 1 = 11 ∨ (n : Int) + 1 = 14 ∨ (n : Int) + 1 = 17 ∨ (n : Int) + 1 = 19)) = decide (((n : Int) * 7 + 8) % 19 < 7) := by decide
theorem llong_eq (y : Int) : llong y = hleap y := by
  have e : (y * 7 + 1) % 19 = ((y - 1) % 19 * 7 + 8) % 19 := by omega
  unfold llong hleap
  rw [e]
  have h0 : 0 ≤ (y - 1) % 19 := Int.emod_nonneg _ (by decide)
  have h1 : (y - 1) % 19 < 19 := Int.emod_lt_of_pos _ (by decide)
  have := llong_fin ((y - 1) % 19).toNat (by omega)
  rw [Int.toNat_of_nonneg h0] at this
  exact this

theorem lfirst_eq (y : Int) : lfirst y = gto y 1 1 := by
  unfold lfirst gto gadj
  simp only [show (1 : Int) ≤ 2 from by decide, if_true]
  omega

theorem dstep4 (y : Int) : y / 4 = (y - 1) / 4 + (if y % 4 = 0 then 1 else 0) := by split <;> omega
theorem dstep100 (y : Int) : y / 100 = (y - 1) / 100 + (if y % 100 = 0 then 1 else 0) := by split <;> omega
theorem dstep400 (y : Int) : y / 400 = (y - 1) / 400 + (if y % 400 = 0 then 1 else 0) := by split <;> omega
theorem gto1 (y : Int) : gto y 1 1 = 1721426 + 365 * (y - 1) + (y - 1) / 4 - (y - 1) / 100 + (y - 1) / 400 := by
  unfold gto
  rw [show gadj y 1 = 0 from rfl, show ((367 : Int) * 1 - 362) / 12 = 0 from rfl]
  omega
theorem step_lin {y a b c i j k s : Int} (h : 365 + i - j + k = s) : 1721426 + 365 * y + (a + i) - (b + j) + (c + k) = 1721426 + 365 * (y - 1) + a - b + c + s := by subst h; omega
theorem lfirst_step (y : Int) : lfirst (y + 1) = lfirst y + (if isleap y = true then 366 else 365) := by
  rw [lfirst_eq, lfirst_eq, gto1, gto1, Int.add_sub_cancel, dstep4 y, dstep100 y, dstep400 y]
  have h1 : y % 400 = 0 → y % 100 = 0 := fun h => Int.emod_eq_zero_of_dvd (Int.dvd_trans ⟨4, rfl⟩ (Int.dvd_of_emod_eq_zero h))
  have h2 : y % 100 = 0 → y % 4 = 0 := fun h => Int.emod_eq_zero_of_dvd (Int.dvd_trans ⟨25, rfl⟩ (Int.dvd_of_emod_eq_zero h))
  unfold isleap
  simp only [decide_eq_true_eq]
  generalize (y - 1) / 4 = a
  generalize (y - 1) / 100 = b
  generalize (y - 1) / 400 = c
  by_cases k3 : y % 400 = 0
  · rw [if_pos (h2 (h1 k3)), if_pos (h1 k3), if_pos k3, if_pos ⟨h2 (h1 k3), .inr k3⟩]; exact step_lin rfl
  · by_cases k2 : y % 100 = 0
    · rw [if_pos (h2 k2), if_pos k2, if_neg k3, if_neg (fun q => q.2.elim (fun x => x k2) k3)]; exact step_lin rfl
    · by_cases k1 : y % 4 = 0
      · rw [if_pos k1, if_neg k2, if_neg k3, if_pos ⟨k1, .inl k2⟩]; exact step_lin rfl
      · rw [if_neg k1, if_neg k2, if_neg k3, if_neg (fun q => k1 q.1)]; exact step_lin rfl

theorem step_fin : ∀ r : Nat, r < 19 → (235 * (r : Int) + 1) / 19 = (235 * (r : Int) - 234) / 19 + (if ((r : Int) * 7 + 1) % 19 < 7 then 13 else 12) := by decide
theorem step_a (y : Int) : (235 * (y + 1) - 234) / 19 = 235 * (y / 19) + (235 * (y % 19) + 1) / 19 := by omega
theorem step_b (y : Int) : (235 * y - 234) / 19 = 235 * (y / 19) + (235 * (y % 19) - 234) / 19 := by omega
theorem step_c (y : Int) : (y * 7 + 1) % 19 = (y % 19 * 7 + 1) % 19 := by omega
theorem moons_step (y : Int) : lmoons (y + 1) = lmoons y + (if hleap y = true then 13 else 12) := by
  rw [moons_eq, moons_eq]
  unfold hleap
  simp only [decide_eq_true_eq]
  rw [step_a, step_b, step_c]
  obtain ⟨r, hr, e⟩ := nat_mod y (show (0 : Int) < 19 by decide)
  rw [e, step_fin r (Int.ofNat_lt.mp hr), Int.add_assoc]
theorem dday_eq (y : Int) : dday y = (ltot y + 6480) / 25920 := by
  unfold dday ltot
  rw [moons_eq]
  omega
def adu (x : Int) : Int := if 3 * (x + 1) % 7 < 3 then x + 1 else x
theorem adu_fin : ∀ r : Nat, r < 7 → (3 * ((r : Int) + 1) % 7 < 3 ↔ ((r : Int) = 2 ∨ (r : Int) = 4 ∨ (r : Int) = 6)) := by decide
theorem adu_a (x : Int) : 3 * (x + 1) % 7 = 3 * (x % 7 + 1) % 7 := by omega
theorem adu_eq (x : Int) : adu x = if x % 7 = 2 ∨ x % 7 = 4 ∨ x % 7 = 6 then x + 1 else x := by
  unfold adu
  rw [adu_a]
  obtain ⟨r, hr, e⟩ := nat_mod x (show (0 : Int) < 7 by decide)
  rw [e]
  simp only [adu_fin r (Int.ofNat_lt.mp hr)]
theorem delay1_eq (y : Int) : delay1 y = adu (dday y) := rfl
theorem dday_now (y : Int) : dday y = lday y + (if 19440 ≤ lparts y then 1 else 0) := by
  rw [dday_eq]; unfold lday lparts
  split <;> omega
theorem dday_next (y : Int) (h : ¬ hleap y = true) : dday (y + 1) = lday y + 354 + (if 9924 ≤ lparts y then 1 else 0) := by
  rw [dday_eq]
  have e : ltot (y + 1) = ltot y + 9185196 := by unfold ltot; rw [moons_step, if_neg h]; omega
  rw [e]; unfold lday lparts
  split <;> omega
theorem dday_nextL (y : Int) (h : hleap y = true) : lday y + 383 ≤ dday (y + 1) ∧ dday (y + 1) ≤ lday y + 385 := by
  rw [dday_eq]
  have e : ltot (y + 1) = ltot y + 9950629 := by unfold ltot; rw [moons_step, if_pos h]; omega
  rw [e]; unfold lday
  omega
theorem dday_prev (y : Int) (h : hleap (y - 1) = true) : dday (y - 1) = lday y - 384 + (if 16789 ≤ lparts y then 1 else 0) := by
  rw [dday_eq]
  have e : ltot y = ltot (y - 1) + 9950629 := by
    have := moons_step (y - 1)
    rw [Int.sub_add_cancel, if_pos h] at this
    unfold ltot; rw [this]; omega
  unfold lday lparts
  rw [e]
  split <;> omega
theorem dday_prevN (y : Int) (h : ¬ hleap (y - 1) = true) : lday y - 356 ≤ dday (y - 1) ∧ dday (y - 1) ≤ lday y - 353 := by
  rw [dday_eq]
  have e : ltot y = ltot (y - 1) + 9185196 := by
    have := moons_step (y - 1)
    rw [Int.sub_add_cancel, if_neg h] at this
    unfold ltot; rw [this]; omega
  unfold lday
  rw [e]
  omega
theorem adu_bd (x : Int) : x ≤ adu x ∧ adu x ≤ x + 1 := by
  unfold adu; split <;> omega
theorem lparts_bd (y : Int) : 0 ≤ lparts y ∧ lparts y < 25920 := ⟨Int.emod_nonneg _ (by decide), Int.emod_lt_of_pos _ (by decide)⟩

theorem excl (y : Int) : ¬ (hleap y = true ∧ hleap (y - 1) = true) := by
  unfold hleap; simp only [decide_eq_true_eq]
  have e : (y - 1) * 7 + 1 = (y * 7 + 1) - 7 := by omega
  rw [e]
  generalize y * 7 + 1 = z
  omega
theorem lny_adu (y : Int) : lny y = 347998 + adu (lday1 y) := by
  rw [adu_eq]; unfold lny; split <;> rfl
theorem pure1 (d p D0 D1 Dm : Int) (h0 : D0 = d + (if 19440 ≤ p then 1 else 0)) (h1 : d + 383 ≤ D1) (hm : d - 356 ≤ Dm) :
    adu D0 + (if adu D1 - adu D0 = 356 then 2 else if adu D0 - adu Dm = 382 then 1 else 0) = adu (if 19440 ≤ p then d + 1 else d) := by
  have e : (if 19440 ≤ p then d + 1 else d) = D0 := by rw [h0]; split <;> omega
  rw [e]
  have b1 := adu_bd D1
  have b0 := adu_bd D0
  have bm := adu_bd Dm
  have : D0 ≤ d + 1 := by rw [h0]; split <;> omega
  rw [if_neg (by omega), if_neg (by omega)]
  omega
theorem adu_shift (q c : Int) : adu (7 * q + c) = 7 * q + adu c := by
  unfold adu
  have e : 3 * (7 * q + c + 1) % 7 = 3 * (c + 1) % 7 := by omega
  rw [e]
  split <;> omega
theorem core_7 {q x0 x1 xm xx : Int} (h : adu x0 + (if adu x1 - adu x0 = 356 then 2 else if adu x0 - adu xm = 382 then 1 else 0) = adu xx) :
    adu (7 * q + x0) + (if adu (7 * q + x1) - adu (7 * q + x0) = 356 then 2 else if adu (7 * q + x0) - adu (7 * q + xm) = 382 then 1 else 0) = adu (7 * q + xx) := by
  rw [adu_shift, adu_shift, adu_shift, adu_shift, Int.add_sub_add_left, Int.add_sub_add_left, Int.add_assoc, h]
theorem fin_7a : ∀ r : Nat, r < 7 → adu ((r : Int) + 1) + (if adu ((r : Int) + 355) - adu ((r : Int) + 1) = 356 then 2 else if adu ((r : Int) + 1) - adu ((r : Int) + -383) = 382 then 1 else 0) = adu ((r : Int) + 1) := by decide
theorem fin_7b : ∀ r : Nat, r < 7 → adu ((r : Int) + 0) + (if adu ((r : Int) + 355) - adu ((r : Int) + 0) = 356 then 2 else if adu ((r : Int) + 0) - adu ((r : Int) + -383) = 382 then 1 else 0) = adu ((r : Int) + (if (r : Int) = 1 then 1 else if (r : Int) = 0 then 1 else 0)) := by decide
theorem fin_7c : ∀ r : Nat, r < 7 → adu ((r : Int) + 0) + (if adu ((r : Int) + 355) - adu ((r : Int) + 0) = 356 then 2 else if adu ((r : Int) + 0) - adu ((r : Int) + -384) = 382 then 1 else 0) = adu ((r : Int) + (if (r : Int) = 1 then 1 else 0)) := by decide
theorem fin_7d : ∀ r : Nat, r < 7 → adu ((r : Int) + 0) + (if adu ((r : Int) + 354) - adu ((r : Int) + 0) = 356 then 2 else if adu ((r : Int) + 0) - adu ((r : Int) + -384) = 382 then 1 else 0) = adu ((r : Int) + 0) := by decide
theorem fin_7e : ∀ r : Nat, r < 7 → adu ((r : Int) + 1) + (if adu ((r : Int) + 355) - adu ((r : Int) + 1) = 356 then 2 else 0) = adu ((r : Int) + 1) := by decide
theorem fin_7f : ∀ r : Nat, r < 7 → adu ((r : Int) + 0) + (if adu ((r : Int) + 355) - adu ((r : Int) + 0) = 356 then 2 else 0) = adu ((r : Int) + (if (r : Int) = 1 then 1 else 0)) := by decide
theorem fin_7g : ∀ r : Nat, r < 7 → adu ((r : Int) + 0) + (if adu ((r : Int) + 354) - adu ((r : Int) + 0) = 356 then 2 else 0) = adu ((r : Int) + 0) := by decide
theorem lift_7 {a0 a1 am : Int} {ax : Int → Int} (h : ∀ r : Nat, r < 7 → adu ((r : Int) + a0) + (if adu ((r : Int) + a1) - adu ((r : Int) + a0) = 356 then 2 else if adu ((r : Int) + a0) - adu ((r : Int) + am) = 382 then 1 else 0) = adu ((r : Int) + ax r)) (d : Int) :
    adu (d + a0) + (if adu (d + a1) - adu (d + a0) = 356 then 2 else if adu (d + a0) - adu (d + am) = 382 then 1 else 0) = adu (d + ax (d % 7)) := by
  obtain ⟨r, hr, e⟩ := nat_mod d (show (0 : Int) < 7 by decide)
  have hd : d = 7 * (d / 7) + r := by rw [← e]; exact (Int.mul_ediv_add_emod d 7).symm
  rw [e]
  generalize d / 7 = q at hd
  subst hd
  rw [Int.add_assoc, Int.add_assoc, Int.add_assoc, Int.add_assoc]
  exact core_7 (h r (Int.ofNat_lt.mp hr))
theorem core_7b {q x0 x1 xx : Int} (h : adu x0 + (if adu x1 - adu x0 = 356 then 2 else 0) = adu xx) :
    adu (7 * q + x0) + (if adu (7 * q + x1) - adu (7 * q + x0) = 356 then 2 else 0) = adu (7 * q + xx) := by
  rw [adu_shift, adu_shift, adu_shift, Int.add_sub_add_left, Int.add_assoc, h]
theorem lift_7b {a0 a1 : Int} {ax : Int → Int} (h : ∀ r : Nat, r < 7 → adu ((r : Int) + a0) + (if adu ((r : Int) + a1) - adu ((r : Int) + a0) = 356 then 2 else 0) = adu ((r : Int) + ax r)) (d : Int) :
    adu (d + a0) + (if adu (d + a1) - adu (d + a0) = 356 then 2 else 0) = adu (d + ax (d % 7)) := by
  obtain ⟨r, hr, e⟩ := nat_mod d (show (0 : Int) < 7 by decide)
  have hd : d = 7 * (d / 7) + r := by rw [← e]; exact (Int.mul_ediv_add_emod d 7).symm
  rw [e]
  generalize d / 7 = q at hd
  subst hd
  rw [Int.add_assoc, Int.add_assoc, Int.add_assoc]
  exact core_7b (h r (Int.ofNat_lt.mp hr))
theorem pure2 (d p D0 D1 Dm X : Int) (h0 : D0 = d + (if 19440 ≤ p then 1 else 0)) (h1 : D1 = d + 354 + (if 9924 ≤ p then 1 else 0))
    (hm : Dm = d - 384 + (if 16789 ≤ p then 1 else 0)) (hX : X = (if 19440 ≤ p then d + 1 else if d % 7 = 1 ∧ 9924 ≤ p then d + 1 else if d % 7 = 0 ∧ 16789 ≤ p then d + 1 else d)) :
    adu D0 + (if adu D1 - adu D0 = 356 then 2 else if adu D0 - adu Dm = 382 then 1 else 0) = adu X := by
  by_cases p1 : 19440 ≤ p
  · have p2 : 9924 ≤ p := Int.le_trans (by decide) p1
    have p3 : 16789 ≤ p := Int.le_trans (by decide) p1
    rw [if_pos p1] at h0 hX; rw [if_pos p2] at h1; rw [if_pos p3] at hm
    have := lift_7 (ax := fun _ => 1) fin_7a d
    rw [h0, h1, hm, hX, show d + 354 + 1 = d + 355 from Int.add_assoc .., show d - 384 + 1 = d + -383 from by rw [Int.sub_eq_add_neg, Int.add_assoc]; rfl]
    exact this
  · rw [if_neg p1] at h0 hX
    by_cases p3 : 16789 ≤ p
    · have p2 : 9924 ≤ p := Int.le_trans (by decide) p3
      rw [if_pos p2] at h1; rw [if_pos p3] at hm
      have := lift_7 (ax := fun r => if r = 1 then 1 else if r = 0 then 1 else 0) fin_7b d
      rw [h0, h1, hm, hX, show d + 354 + 1 = d + 355 from Int.add_assoc .., show d - 384 + 1 = d + -383 from by rw [Int.sub_eq_add_neg, Int.add_assoc]; rfl, this]
      simp only [p2, p3, and_true]
      congr 1
      by_cases k1 : d % 7 = 1
      · rw [if_pos k1, if_pos k1]
      · rw [if_neg k1, if_neg k1]
        by_cases k0 : d % 7 = 0
        · rw [if_pos k0, if_pos k0]
        · rw [if_neg k0, if_neg k0, Int.add_zero]
    · rw [if_neg p3] at hm
      have hXX : X = if d % 7 = 1 ∧ 9924 ≤ p then d + 1 else d := by
        rw [hX]; congr 1; exact if_neg fun q => p3 q.2
      by_cases p2 : 9924 ≤ p
      · rw [if_pos p2] at h1
        have := lift_7 (ax := fun r => if r = 1 then 1 else 0) fin_7c d
        rw [h0, h1, hm, hXX, Int.add_zero (d - 384), show d + 354 + 1 = d + 355 from Int.add_assoc .., show d - 384 = d + -384 from Int.sub_eq_add_neg, this]
        simp only [p2, and_true]
        congr 1
        by_cases k1 : d % 7 = 1
        · rw [if_pos k1, if_pos k1]
        · rw [if_neg k1, if_neg k1, Int.add_zero]
      · rw [if_neg p2] at h1
        have := lift_7 (ax := fun _ => 0) fin_7d d
        rw [h0, h1, hm, hXX, Int.add_zero (d - 384), Int.add_zero (d + 354), show d - 384 = d + -384 from Int.sub_eq_add_neg, this, if_neg (fun q => p2 q.2), Int.add_zero]
theorem pure3 (d p D0 D1 Dm X : Int) (h0 : D0 = d + (if 19440 ≤ p then 1 else 0)) (h1 : D1 = d + 354 + (if 9924 ≤ p then 1 else 0))
    (hm : d - 356 ≤ Dm) (hX : X = (if 19440 ≤ p then d + 1 else if d % 7 = 1 ∧ 9924 ≤ p then d + 1 else d)) :
    adu D0 + (if adu D1 - adu D0 = 356 then 2 else if adu D0 - adu Dm = 382 then 1 else 0) = adu X := by
  have hno : ¬ adu D0 - adu Dm = 382 := by
    have bm := (adu_bd Dm).1
    have b0 := (adu_bd D0).2
    have : D0 ≤ d + 1 := by rw [h0]; split <;> omega
    clear h0 h1 hX
    omega
  rw [if_neg hno]
  clear hno hm Dm
  by_cases p1 : 19440 ≤ p
  · have p2 : 9924 ≤ p := Int.le_trans (by decide) p1
    rw [if_pos p1] at h0 hX; rw [if_pos p2] at h1
    have := lift_7b (ax := fun _ => 1) fin_7e d
    rw [h0, h1, hX, show d + 354 + 1 = d + 355 from Int.add_assoc ..]
    exact this
  · rw [if_neg p1] at h0 hX
    by_cases p2 : 9924 ≤ p
    · rw [if_pos p2] at h1
      have := lift_7b (ax := fun r => if r = 1 then 1 else 0) fin_7f d
      rw [h0, h1, hX, show d + 354 + 1 = d + 355 from Int.add_assoc .., this]
      simp only [p2, and_true]
      congr 1
      by_cases k1 : d % 7 = 1
      · rw [if_pos k1, if_pos k1]
      · rw [if_neg k1, if_neg k1, Int.add_zero]
    · rw [if_neg p2] at h1
      have := lift_7b (ax := fun _ => 0) fin_7g d
      rw [h0, h1, hX, Int.add_zero (d + 354), this, if_neg (fun q => p2 q.2), Int.add_zero]

theorem ny_core (y : Int) : 347996 + delay1 y + delay2 y + 1 + 1 = lny y := by
  have h0 := dday_now y
  have goal : adu (dday y) + (if adu (dday (y + 1)) - adu (dday y) = 356 then 2 else if adu (dday y) - adu (dday (y - 1)) = 382 then 1 else 0) = adu (lday1 y) := by
    by_cases hl : hleap y = true
    · have hl' : ¬ hleap (y - 1) = true := fun h => excl y ⟨hl, h⟩
      rw [pure1 (lday y) (lparts y) _ _ _ h0 (dday_nextL y hl).1 (dday_prevN y hl').1]
      unfold lday1
      rw [llong_eq y, llong_eq (y - 1)]
      simp only [hl, hl', not_true, and_false, if_false, Bool.false_eq_true]
    · by_cases hl' : hleap (y - 1) = true
      · refine pure2 (lday y) (lparts y) _ _ _ _ h0 (dday_next y hl) (dday_prev y hl') ?_
        unfold lday1
        rw [llong_eq y, llong_eq (y - 1)]
        simp only [hl, hl', not_false_iff, and_true, Bool.false_eq_true]
      · refine pure3 (lday y) (lparts y) _ _ _ _ h0 (dday_next y hl) (dday_prevN y hl').1 ?_
        unfold lday1
        rw [llong_eq y, llong_eq (y - 1)]
        simp only [hl, hl', not_false_iff, and_true, and_false, if_false, Bool.false_eq_true]
  rw [lny_adu, ← goal]
  show 347996 + adu (dday y) + (if adu (dday (y + 1)) - adu (dday y) = 356 then 2 else if adu (dday y) - adu (dday (y - 1)) = 382 then 1 else 0) + 1 + 1 = _
  generalize (if adu (dday (y + 1)) - adu (dday y) = 356 then (2 : Int) else if adu (dday y) - adu (dday (y - 1)) = 382 then 1 else 0) = b
  generalize adu (dday y) = a
  clear goal h0
  omega

theorem split_146097 (n : Int) : n = 146097 * (n / 146097) + 36524 * (n % 146097 / 36524) + 1461 * (n % 146097 % 36524 / 1461) + 365 * (n % 146097 % 36524 % 1461 / 365) + n % 146097 % 36524 % 1461 % 365 := by
  have h1 := Int.mul_ediv_add_emod n 146097
  have h2 := Int.mul_ediv_add_emod (n % 146097) 36524
  have h3 := Int.mul_ediv_add_emod (n % 146097 % 36524) 1461
  have h4 := Int.mul_ediv_add_emod (n % 146097 % 36524 % 1461) 365
  generalize n % 146097 % 36524 % 1461 % 365 = e at *
  generalize n % 146097 % 36524 % 1461 / 365 = i at *
  generalize n % 146097 % 36524 % 1461 = d at *
  generalize n % 146097 % 36524 / 1461 = k at *
  generalize n % 146097 % 36524 = c' at *
  generalize n % 146097 / 36524 = c at *
  generalize n % 146097 = r at *
  generalize n / 146097 = q at *
  omega
theorem div4 {q c k i : Int} (h0 : 0 ≤ i) (h1 : i ≤ 3) : (400 * q + 100 * c + 4 * k + i) / 4 = 100 * q + 25 * c + k := by omega
theorem div100 {q c m : Int} (h0 : 0 ≤ m) (h1 : m ≤ 99) : (400 * q + 100 * c + m) / 100 = 4 * q + c := by omega
theorem div400 {q m : Int} (h0 : 0 ≤ m) (h1 : m ≤ 399) : (400 * q + m) / 400 = q := by omega
theorem day_of {q c k i : Int} (c0 : 0 ≤ c) (c1 : c ≤ 3) (k0 : 0 ≤ k) (k1 : k ≤ 24) (i0 : 0 ≤ i) (i1 : i ≤ 3) :
    lfirst (400 * q + 100 * c + 4 * k + i + 1) = 1721426 + (146097 * q + 36524 * c + 1461 * k + 365 * i) := by
  rw [lfirst_eq, gto1, Int.add_sub_cancel, div4 i0 i1, show 400 * q + 100 * c + 4 * k + i = 400 * q + 100 * c + (4 * k + i) from by rw [Int.add_assoc], div100 (by omega) (by omega),
    show 400 * q + 100 * c + (4 * k + i) = 400 * q + (100 * c + (4 * k + i)) from Int.add_assoc .., div400 (by omega) (by omega)]
  clear c0 c1 k0 k1 i0 i1
  omega
theorem leap_a {y : Int} (h : y % 400 = 0) : isleap y = true := by
  unfold isleap
  rw [decide_eq_true_eq]
  exact ⟨Int.emod_eq_zero_of_dvd (Int.dvd_trans ⟨100, rfl⟩ (Int.dvd_of_emod_eq_zero h)), .inr h⟩
theorem leap_b {y : Int} (h : y % 4 = 0) (h2 : ¬ y % 100 = 0) : isleap y = true := by
  unfold isleap
  rw [decide_eq_true_eq]
  exact ⟨h, .inl h2⟩
theorem bounds_of {j Y x : Int} (h : lfirst Y = j - x) (h0 : 0 ≤ x) (h1 : x < 365 ∨ (x = 365 ∧ isleap Y = true)) : lfirst Y ≤ j ∧ j < lfirst (Y + 1) := by
  rw [lfirst_step, h]
  rcases h1 with h1 | ⟨h1, h2⟩
  · refine ⟨by omega, ?_⟩
    split <;> omega
  · rw [if_pos h2]; omega
theorem fy_bounds (j : Int) : lfirst (fy j) ≤ j ∧ j < lfirst (fy j + 1) := by
  have hn := split_146097 (j - 1721426)
  have r0 := Int.emod_nonneg (j - 1721426) (show (146097 : Int) ≠ 0 by decide)
  have r1 := Int.emod_lt_of_pos (j - 1721426) (show (0 : Int) < 146097 by decide)
  unfold fy fy0 fcent fyi
  generalize (j - 1721426) / 146097 = q at *
  generalize (j - 1721426) % 146097 = r at *
  have c0 : 0 ≤ r / 36524 := Int.ediv_nonneg r0 (by decide)
  have c1 : r / 36524 ≤ 4 := by clear hn; omega
  have d0 := Int.emod_nonneg r (show (36524 : Int) ≠ 0 by decide)
  have d1 := Int.emod_lt_of_pos r (show (0 : Int) < 36524 by decide)
  have cr : r / 36524 = 4 → r % 36524 = 0 := by clear hn; omega
  generalize r / 36524 = c at *
  generalize r % 36524 = d at *
  clear r0 r1 r
  have k0 : 0 ≤ d / 1461 := Int.ediv_nonneg d0 (by decide)
  have k1 : d / 1461 ≤ 24 := by clear hn cr; omega
  have e0 := Int.emod_nonneg d (show (1461 : Int) ≠ 0 by decide)
  have e1 := Int.emod_lt_of_pos d (show (0 : Int) < 1461 by decide)
  have kr : d % 1461 = 1460 → d / 1461 ≤ 23 := by clear hn cr; omega
  have dz : d = 0 → d / 1461 = 0 ∧ d % 1461 = 0 := by rintro rfl; exact ⟨rfl, rfl⟩
  generalize d / 1461 = k at *
  generalize d % 1461 = e at *
  have i0 : 0 ≤ e / 365 := Int.ediv_nonneg e0 (by decide)
  have i1 : e / 365 ≤ 4 := by clear hn cr kr dz; omega
  have f0 := Int.emod_nonneg e (show (365 : Int) ≠ 0 by decide)
  have f1 := Int.emod_lt_of_pos e (show (0 : Int) < 365 by decide)
  have er : e / 365 = 4 → e = 1460 ∧ e % 365 = 0 := by clear hn cr kr dz; omega
  have ez : e = 0 → e / 365 = 0 ∧ e % 365 = 0 := by rintro rfl; exact ⟨rfl, rfl⟩
  generalize e / 365 = i at *
  generalize e % 365 = f at *
  clear d0 d1 e0 e1
  rw [show q * 400 + c * 100 + k * 4 + i = 400 * q + 100 * c + 4 * k + i by rw [Int.mul_comm q, Int.mul_comm c, Int.mul_comm k]]
  by_cases h4 : c = 4
  · obtain ⟨rfl, rfl⟩ := dz (cr h4)
    obtain ⟨rfl, rfl⟩ := ez rfl
    subst h4
    rw [if_pos (.inl rfl)]
    clear cr kr dz ez er
    refine bounds_of (x := 365) ?_ (by decide) (.inr ⟨rfl, leap_a (by omega)⟩)
    have h := day_of (q := q) (c := 3) (k := 24) (i := 3) (by decide) (by decide) (by decide) (by decide) (by decide) (by decide)
    rw [show 400 * q + 100 * 3 + 4 * 24 + 3 + 1 = 400 * q + 100 * 4 + 4 * 0 + 0 by omega] at h
    rw [h]; omega
  · have c3 : c ≤ 3 := by clear hn cr kr dz ez er; omega
    by_cases hi : i = 4
    · obtain ⟨rfl, rfl⟩ := er hi
      subst hi
      rw [if_pos (.inr rfl)]
      have k23 := kr rfl
      clear cr kr dz ez er
      have h := day_of (q := q) (c := c) (k := k) (i := 3) c0 c3 k0 k1 (by decide) (by decide)
      rw [Int.add_assoc _ 3 1] at h
      refine bounds_of (x := 365) ?_ (by decide) (.inr ⟨rfl, leap_b (by clear hn h; omega) (by clear hn h; omega)⟩)
      refine h.trans ?_
      clear h
      omega
    · have i3 : i ≤ 3 := by clear hn cr kr dz ez er; omega
      rw [if_neg (fun q => q.elim h4 hi)]
      have h := day_of (q := q) (c := c) (k := k) (i := i) c0 c3 k0 k1 i0 i3
      clear cr kr dz ez er
      refine bounds_of (x := f) ?_ f0 (.inl f1)
      rw [h]; clear h; omega

def lq (y : Int) : Int := if isleap y = true then 1 else 0
def lmon (d l : Int) : Int := if d ≤ 31 then 1 else if d ≤ 59 + l then 2 else if d ≤ 90 + l then 3 else if d ≤ 120 + l then 4 else if d ≤ 151 + l then 5 else if d ≤ 181 + l then 6 else if d ≤ 212 + l then 7 else if d ≤ 243 + l then 8 else if d ≤ 273 + l then 9 else if d ≤ 304 + l then 10 else if d ≤ 334 + l then 11 else 12
def lcum (d l : Int) : Int := if d ≤ 31 then 0 else if d ≤ 59 + l then 31 else if d ≤ 90 + l then 59 + l else if d ≤ 120 + l then 90 + l else if d ≤ 151 + l then 120 + l else if d ≤ 181 + l then 151 + l else if d ≤ 212 + l then 181 + l else if d ≤ 243 + l then 212 + l else if d ≤ 273 + l then 243 + l else if d ≤ 304 + l then 273 + l else if d ≤ 334 + l then 304 + l else 334 + l


theorem fm_a {j x : Int} (hx : x = 0 ∧ j - gto (fy j) 1 1 < 58 + (if isleap (fy j) = true then 1 else 0) ∨ x = 1 ∧ ¬ (j - gto (fy j) 1 1 < 58 + (if isleap (fy j) = true then 1 else 0)) ∧ isleap (fy j) = true ∨ x = 2 ∧ ¬ (j - gto (fy j) 1 1 < 58 + (if isleap (fy j) = true then 1 else 0)) ∧ isleap (fy j) = false) :
    ((j - gto (fy j) 1 1 + x) * 12 + 373) / 367 = fm j := by
  unfold fm fadj fyd
  rcases hx with ⟨rfl, h⟩ | ⟨rfl, h, h'⟩ | ⟨rfl, h, h'⟩
  · rw [if_pos h]
  · rw [if_neg h, if_pos h']
  · rw [if_neg h, h', if_neg (by decide)]
theorem fd_a {j M : Int} (h : M = fm j) : j - gto (fy j) M 1 + 1 = fd j := by subst h; rfl
def rks (a : Int) (n : Nat) : List Int := (List.range n).map fun (i : Nat) => a + (i : Int)
def hsum (y x : Int) (l : List Int) : Int := l.foldl (fun a' k' => a' + hml y k') x
def hto (y m d : Int) : Int := if m < 7 then mid (hsum y (hsum y (347996 + delay1 y + delay2 y + d + 1) (rks 7 (hmonths y + 1 - 7).toNat)) (rks 1 (m - 1).toNat)) else mid (hsum y (347996 + delay1 y + delay2 y + d + 1) (rks 7 (m - 7).toNat))

noncomputable def runl (mo : Int) : Int → List (Int × Int) → Int
  | f, [] => f
  | f, x :: r => if x.1 = mo then f else runl mo (f + x.2) r
def lpairs (y : Int) : List (Int × Int) :=
  [(7, 30), (8, if lspan y % 10 = 5 then 30 else 29), (9, if lspan y % 10 = 3 then 29 else 30), (10, 29), (11, 30)] ++ (if llong y = true then [(12, 30), (13, 29)] else [(12, 29)]) ++ [(1, 30), (2, 29), (3, 30), (4, 29), (5, 30), (6, 29)]
noncomputable def lnum (y m d : Int) : Int := runl m (lny y) (lpairs y) + d - 1

theorem lfirst_lt (y : Int) (n : Nat) : lfirst y ≤ lfirst (y + n) := by
  induction n with
  | zero => simp
  | succ n ih =>
    have h := lfirst_step (y + n)
    rw [show y + ((n + 1 : Nat) : Int) = y + n + 1 by omega, h]
    split <;> omega
theorem lfirst_le {a b : Int} (h : a ≤ b) : lfirst a ≤ lfirst b := by
  have := lfirst_lt a (b - a).toNat
  rwa [show a + ((b - a).toNat : Int) = b by omega] at this
theorem fy_unique {j Y : Int} (h1 : lfirst Y ≤ j) (h2 : j < lfirst (Y + 1)) : Y = fy j := by
  have ⟨a, b⟩ := fy_bounds j
  by_cases h : Y < fy j
  · have := lfirst_le (show Y + 1 ≤ fy j by omega); omega
  · by_cases h' : fy j < Y
    · have := lfirst_le (show fy j + 1 ≤ Y by omega); omega
    · omega
theorem lfirst_span (y : Int) : lfirst (y + 1) - lfirst y = 365 + lq y := by
  rw [lfirst_step]; unfold lq; split <;> omega
theorem lq_bd (y : Int) : 0 ≤ lq y ∧ lq y ≤ 1 := by unfold lq; split <;> omega
theorem gto_first (y k : Int) : gto y k 1 = lfirst y + ((367 * k - 362) / 12 + gadj y k) := by
  rw [lfirst_eq]; unfold gto; 
  have : gadj y 1 = 0 := by unfold gadj; rfl
  rw [this]; omega
theorem fm_eq (j : Int) : fm j = ((j - lfirst (fy j) + (if j - lfirst (fy j) < 58 + lq (fy j) then 0 else if lq (fy j) = 1 then 1 else 2)) * 12 + 373) / 367 := by
  unfold fm fadj fyd lq
  rw [lfirst_eq]
  by_cases h : isleap (fy j) = true <;> simp [h]
theorem fd_eq (j : Int) : fd j = j - (lfirst (fy j) + ((367 * fm j - 362) / 12 + (if fm j ≤ 2 then 0 else if lq (fy j) = 1 then -1 else -2))) + 1 := by
  unfold fd
  rw [gto_first]
  unfold gadj lq
  by_cases h : isleap (fy j) = true <;> simp [h]
def FMx (x l : Int) : Int := ((x + (if x < 58 + l then 0 else if l = 1 then 1 else 2)) * 12 + 373) / 367
def FDx (x l : Int) : Int := x - ((367 * FMx x l - 362) / 12 + (if FMx x l ≤ 2 then 0 else if l = 1 then -1 else -2)) + 1
theorem fm_x (j : Int) : fm j = FMx (j - lfirst (fy j)) (lq (fy j)) := fm_eq j
theorem fd_x (j : Int) : fd j = FDx (j - lfirst (fy j)) (lq (fy j)) := by
  rw [fd_eq, fm_x]
  unfold FDx
  rw [← Int.sub_sub]
def lenL (X M : Int) : Int := ([31, X, 31, 30, 31, 30, 31, 31, 30, 31, 30, 31] : List Int).getD (M - 1).toNat 0
def cumL (l M : Int) : Int := ([0, 31, 59 + l, 90 + l, 120 + l, 151 + l, 181 + l, 212 + l, 243 + l, 273 + l, 304 + l, 334 + l, 365 + l] : List Int).getD (M - 1).toNat 0
theorem fin_step : ∀ l : Nat, l < 2 → ∀ n : Nat, n < 12 → cumL l (n + 1) + lenL (28 + l) (n + 1) = cumL l (n + 1 + 1) := by decide
theorem fin_len : ∀ l : Nat, l < 2 → ∀ n : Nat, n < 12 → 28 ≤ lenL (28 + l) (n + 1) ∧ lenL (28 + l) (n + 1) < 32 := by decide
def okM (l n D : Nat) : Bool := !decide (1 ≤ (D : Int)) || !decide ((D : Int) ≤ lenL (28 + l) (n + 1)) || (decide (FMx (cumL l (n + 1) + D - 1) l = n + 1) && decide (FDx (cumL l (n + 1) + D - 1) l = D))
theorem fin_ok : ∀ l : Nat, l < 2 → ∀ n : Nat, n < 12 → ∀ D : Nat, D < 32 → okM l n D = true := by decide +kernel
theorem fin_month (l : Nat) (hl : l < 2) (n : Nat) (hn : n < 12) (D : Nat) (hD : D < 32) (h1 : 1 ≤ (D : Int)) (h2 : (D : Int) ≤ lenL (28 + l) (n + 1)) : FMx (cumL l (n + 1) + D - 1) l = n + 1 ∧ FDx (cumL l (n + 1) + D - 1) l = D := by
  have h := fin_ok l hl n hn D hD
  unfold okM at h
  rw [decide_eq_true h1, decide_eq_true h2, Bool.not_true, Bool.false_or, Bool.false_or, Bool.and_eq_true] at h
  exact ⟨of_decide_eq_true h.1, of_decide_eq_true h.2⟩
theorem fin_gdim : ∀ l : Nat, l < 2 → ∀ x : Nat, x < 366 → (x : Int) < 365 + l → 0 < FDx x l ∧ FDx x l ≤ (if FMx x l = 2 then 28 + (l : Int) else if FMx x l = 4 ∨ FMx x l = 6 ∨ FMx x l = 9 ∨ FMx x l = 11 then 30 else 31) := by decide +kernel
theorem nat_lq (y : Int) : ∃ k : Nat, k < 2 ∧ lq y = k := by
  unfold lq
  split
  · exact ⟨1, by decide, rfl⟩
  · exact ⟨0, by decide, rfl⟩
theorem nat_M {M : Int} (h1 : 1 ≤ M) (h2 : M ≤ 12) : ∃ n : Nat, n < 12 ∧ M = n + 1 := ⟨(M - 1).toNat, by omega, by omega⟩
theorem len_step {M D d0 X G a b j y : Int} (hG : ([31, X, 31, 30, 31, 30, 31, 31, 30, 31, 30, 31] : List Int).getD (M - 1).toNat 0 = G) (hX : X = b - a - 337) (hsp : b - a = 365 + lq y) (hbd : j < b) (hd0 : d0 = j - a + 1)
    (hM : 1 ≤ M ∧ M ≤ 12 ∧ D = d0 - cumL (lq y) M) (h : G < D) : 1 ≤ D - G ∧ (1 ≤ M + 1 ∧ M + 1 ≤ 12 ∧ D - G = d0 - cumL (lq y) (M + 1)) ∧ (D - G).toNat < D.toNat := by
  change lenL X M = G at hG
  obtain ⟨h1, h2, h3⟩ := hM
  obtain ⟨n, hn, rfl⟩ := nat_M h1 h2
  obtain ⟨l, hl, e⟩ := nat_lq y
  generalize lq y = q at *
  subst e
  have hX' : X = 28 + (l : Int) := by rw [hX, hsp]; omega
  subst hX'
  have f1 := fin_step l hl n hn
  have f2 := (fin_len l hl n hn).1
  rw [hG] at f1 f2
  have h12 : n = 11 → cumL l ((n : Int) + 1 + 1) = 365 + l := by rintro rfl; rfl
  generalize cumL l ((n : Int) + 1 + 1) = c2 at *
  generalize cumL l ((n : Int) + 1) = c1 at *
  clear hG hX
  omega
theorem len_end {M D X G j : Int} (hG : ([31, X, 31, 30, 31, 30, 31, 31, 30, 31, 30, 31] : List Int).getD (M - 1).toNat 0 = G) (hX : X = lfirst (fy j + 1) - lfirst (fy j) - 337) (hD : 1 ≤ D)
    (hM : 1 ≤ M ∧ M ≤ 12 ∧ D = (j - lfirst (fy j) + 1) - cumL (lq (fy j)) M) (h : D ≤ G) : M = fm j ∧ D = fd j := by
  change lenL X M = G at hG
  have hsp := lfirst_span (fy j)
  rw [fm_x, fd_x]
  generalize lfirst (fy j + 1) = F1 at *
  generalize lfirst (fy j) = F at *
  obtain ⟨h1, h2, h3⟩ := hM
  obtain ⟨n, hn, rfl⟩ := nat_M h1 h2
  obtain ⟨l, hl, e⟩ := nat_lq (fy j)
  generalize lq (fy j) = q at *
  subst e
  have hX' : X = 28 + (l : Int) := by rw [hX, hsp]; omega
  subst hX'
  have f2 := (fin_len l hl n hn).2
  rw [hG] at f2
  obtain ⟨D', hD', rfl⟩ := nat_of (Int.le_of_lt hD) (Int.lt_of_le_of_lt h f2)
  have f := fin_month l hl n hn D' (Int.ofNat_lt.mp hD') hD (by rw [hG]; exact h)
  have ex : j - F = cumL l ((n : Int) + 1) + D' - 1 := by
    generalize cumL l ((n : Int) + 1) = c at *
    clear f f2 hG hX hsp hD' h1 h2
    omega
  rw [ex]
  exact ⟨f.1.symm, f.2.symm⟩

theorem gto_jd (j : Int) : gto (fy j) (fm j) (fd j) = j := by
  have h : gto (fy j) (fm j) (fd j) = gto (fy j) (fm j) 1 + fd j - 1 := by unfold gto; omega
  rw [h]; unfold fd; omega
theorem gdim_jd (j : Int) : 0 < fd j ∧ fd j ≤ gdim (fy j) (fm j) := by
  have hb := fy_bounds j
  have hs := lfirst_span (fy j)
  have hq : (if isleap (fy j) = true then (29 : Int) else 28) = 28 + lq (fy j) := by unfold lq; split <;> rfl
  unfold gdim
  rw [hq, fm_x, fd_x]
  generalize lfirst (fy j + 1) = F1 at *
  generalize lfirst (fy j) = F at *
  obtain ⟨l, hl, e⟩ := nat_lq (fy j)
  generalize lq (fy j) = q at *
  subst e
  obtain ⟨x, hx, ex⟩ := nat_of (x := j - F) (n := 365 + l) (Int.sub_nonneg_of_le hb.1) (by have := hb.2; clear hq hb; omega)
  rw [ex]
  exact fin_gdim l hl x (by omega) hx
end JB
end
section
open PySem PySem.W PyProof.Rows
namespace JB
noncomputable abbrev LS : List Str := looseW vw [Str.ofString "to_jd_gregorian", Str.ofString "to_jd_hebrew", Str.ofString "hanukkah", Str.ofString "purim",
      Str.ofString "rosh_hashanah", Str.ofString "yom_kippur", Str.ofString "passover", Str.ofString "shavuot",
      Str.ofString "sukkot", Str.ofString "shemini_azeret", Str.ofString "lag_baomer", Str.ofString "tu_beshvat",
      Str.ofString "tisha_bav"]
abbrev JRet := Heap → Addr → (Str → Option Value) → List (Addr × Obj) → Shared → (Value → Shared → Prop) → Prop
abbrev JCl (w : World) (f : Addr) (vs : List Value) (n : Nat) (pre : Prop) (Ret : JRet) : Prop :=
  ∀ {mean : ExcName → Option Value} {mg mb : Str → Option Value} {dp un : Nat} {gd : Option (List Code)} {cn : Str} {cs : Scope} {a : Addr} {ccd : Value} {cl : List (Str × Addr)} {outer : List Env} {A₀ : Around} {base h₀ : Heap} {L : Addr} {m : Str → Option Value} {s : Shared} {Q E : Value → Shared → Prop} {news : List (Addr × Obj)},
    Below A₀ base outer h₀ → Fr h₀ L s.heap m → (hd.heap_39 w.params).In h₀ → News h₀ L s.heap news → Top vw LS mean mg mb h₀ → cs.kind = .function → pre → dp + n < recursionLimit → un + 8 * n < cLine →
    Ret h₀ L m news s Q → wpAny (model PySem.Challenge.rw_jb0013_01.row.prog w) (ktrTop dp un gd cn cs L a ccd cl outer) (call (.ref f) vs) Q E s
abbrev RVal (R : Tok → Value) : JRet := fun h₀ L m news s Q =>
  ∀ (t : Tok) (h' : Heap) (tk' : Nat), Fr h₀ L h' m → News h₀ L h' news → Q (R t) { s with heap := h', toks := tk' }
abbrev tup3 (a b c : Int) (t1 t2 t3 : Tok) (k : Nat) : Obj := { cls := .type "tuple", data := .seq #[.int a t1, .int b t2, .int c t3] k }
abbrev RTup (a b c : Int) : JRet := fun h₀ L m news s Q =>
  ∀ (D : Addr) (t1 t2 t3 : Tok) (k : Nat) (h' : Heap) (tk' : Nat), Fr h₀ L h' m → News h₀ L h' ((D, tup3 a b c t1 t2 t3 k) :: news) → Q (.ref D) { s with heap := h', toks := tk' }
theorem fm_nn (a : Int) {b : Int} (h : 0 ≤ b) : Int.fmod a b = a % b := Int.fmod_eq_emod_of_nonneg a h
theorem fd_nn (a : Int) {b : Int} (h : 0 ≤ b) : Int.fdiv a b = a / b := Int.fdiv_eq_ediv_of_nonneg a h
theorem tup_ret {a b c a' b' c' : Int} {t1 t2 t3 : Tok} {k : Nat} {h₀ h' : Heap} {L D : Addr} {m : Str → Option Value} {news : List (Addr × Obj)} {s : Shared} {Q : Value → Shared → Prop} {tk' : Nat}
    (hret : ∀ (D : Addr) (t1 t2 t3 : Tok) (k : Nat) (h' : Heap) (tk' : Nat), Fr h₀ L h' m → News h₀ L h' ((D, tup3 a b c t1 t2 t3 k) :: news) → Q (.ref D) { s with heap := h', toks := tk' })
    (F : Fr h₀ L h' m) (N : News h₀ L h' ((D, tup3 a' b' c' t1 t2 t3 k) :: news)) (e1 : a' = a) (e2 : b' = b) (e3 : c' = c) : Q (.ref D) { s with heap := h', toks := tk' } := by
  subst e1; subst e2; subst e3; exact hret D t1 t2 t3 k h' tk' F N
theorem news_skip {h₀ h : Heap} {L : Addr} {a b : Addr × Obj} {r : List (Addr × Obj)} (N : News h₀ L h (a :: b :: r)) : News h₀ L h (a :: r) := fun p hp => N p (by
    rcases List.mem_cons.mp hp with rfl | hp
    · exact .head _
    · exact .tail _ (.tail _ hp))
theorem news_tail {h₀ h : Heap} {L : Addr} {a : Addr × Obj} {r : List (Addr × Obj)} (N : News h₀ L h (a :: r)) : News h₀ L h r := fun p hp => N p (.tail _ hp)
theorem store_int {M : Model} {A : Around} {E : Value → Shared → Prop} {s : Shared} {h₀ : Heap} {L a : Addr} {m : Str → Option Value} {cn : Str} {cs : Scope} {ccd : Value} {cl : List (Str × Addr)} {x : Str} {n : Int} {tk : Tok} {Q : Unit → Shared → Prop} {news : List (Addr × Obj)}
    (F : Fr h₀ L s.heap m) (N : News h₀ L s.heap news) (h : ∀ t h', Fr h₀ L h' (fun y => if y = x then some (.int n t) else m y) → News h₀ L h' news → Q () { s with heap := h', toks := s.toks + 1 })
    (hk : cs.kind = .function := by rfl) (hx : (envX cn cs L a ccd cl).kindOf x = some .local := by rfl) : wpAny M A (storeName (envX cn cs L a ccd cl) x (.int n tk)) Q E s :=
  storeX_L F N (h tk) hk hx
theorem gdim_one (y m : Int) : (0 : Int) < 1 ∧ 1 ≤ gdim y m := by
  refine ⟨by decide, ?_⟩
  unfold gdim
  split
  · split <;> decide
  · split <;> decide
theorem year_a {j Y : Int} (hY : (j - 1721426).fdiv 146097 * 400 + ((j - 1721426).fmod 146097).fdiv 36524 * 100 + (((j - 1721426).fmod 146097).fmod 36524).fdiv 1461 * 4 + ((((j - 1721426).fmod 146097).fmod 36524).fmod 1461).fdiv 365 = Y)
    (h : ((j - 1721426).fmod 146097).fdiv 36524 = 4 ∨ ((((j - 1721426).fmod 146097).fmod 36524).fmod 1461).fdiv 365 = 4) : Y = fy j := by
  simp only [fm_nn _ (show (0 : Int) ≤ 146097 by decide), fm_nn _ (show (0 : Int) ≤ 36524 by decide), fm_nn _ (show (0 : Int) ≤ 1461 by decide), fd_nn _ (show (0 : Int) ≤ 146097 by decide), fd_nn _ (show (0 : Int) ≤ 36524 by decide), fd_nn _ (show (0 : Int) ≤ 1461 by decide), fd_nn _ (show (0 : Int) ≤ 365 by decide)] at hY h
  unfold fy fy0 fcent fyi
  rw [if_pos h, ← hY]
theorem year_b {j Y : Int} (hY : (j - 1721426).fdiv 146097 * 400 + ((j - 1721426).fmod 146097).fdiv 36524 * 100 + (((j - 1721426).fmod 146097).fmod 36524).fdiv 1461 * 4 + ((((j - 1721426).fmod 146097).fmod 36524).fmod 1461).fdiv 365 + 1 = Y)
    (h : ((j - 1721426).fmod 146097).fdiv 36524 ≠ 4) (h' : ((((j - 1721426).fmod 146097).fmod 36524).fmod 1461).fdiv 365 ≠ 4) : Y = fy j := by
  simp only [fm_nn _ (show (0 : Int) ≤ 146097 by decide), fm_nn _ (show (0 : Int) ≤ 36524 by decide), fm_nn _ (show (0 : Int) ≤ 1461 by decide), fd_nn _ (show (0 : Int) ≤ 146097 by decide), fd_nn _ (show (0 : Int) ≤ 36524 by decide), fd_nn _ (show (0 : Int) ≤ 1461 by decide), fd_nn _ (show (0 : Int) ≤ 365 by decide)] at hY h h'
  unfold fy fy0 fcent fyi
  rw [if_neg (fun x => x.elim h h'), ← hY]
theorem all_ne {d L : Addr} {news : List (Addr × Obj)} (h : ∀ p ∈ news, p.1 < L) (hd : @LE.le Nat _ L d) : ∀ p ∈ news, p.1 ≠ d := fun p hp e => by
  have h1 : @LT.lt Nat _ p.1 L := h p hp
  rw [e] at h1
  exact absurd (Nat.lt_of_lt_of_le h1 hd) (Nat.lt_irrefl _)
theorem divmod_J {prog : Program} {w : World} {A : Around} {E : Value → Shared → Prop} {s : Shared} {a b : Int} {t u : Tok} {Q : Value → Shared → Prop} {h₀ : Heap} {L : Addr} {m : Str → Option Value} {news : List (Addr × Obj)} (F : Fr h₀ L s.heap m) (N : News h₀ L s.heap news) (hb : b ≠ 0)
    (hp : Builtin.divisionGoesByPylong a b = false)
    (h : ∀ D h', Fr h₀ L h' m → News h₀ L h' ((D, { cls := .type "tuple", data := .seq #[.int (a.fdiv b) s.toks, .int (a.fmod b) (s.toks + 1)] }) :: news) → (∀ p ∈ news, p.1 < D) → Q (.ref D) { s with toks := s.toks + 1 + 1, heap := h' }) :
    wpAny (model prog w) A (call (.builtin "divmod") [.int a t, .int b u]) Q E s :=
  divmod_N F N hb (fun h' F' N' => h _ h' F' N' fun p hp => Heap.lt_size (N p hp).1) (Or.inl hp)
theorem hmonths_bd (y : Int) : 12 ≤ hmonths y ∧ hmonths y ≤ 13 := by unfold hmonths; split <;> decide
theorem hto_lo {y m d : Int} (h : m < 7) : mid (List.foldl (fun a' k' => a' + hml y k') (List.foldl (fun a' k' => a' + hml y k') (347996 + delay1 y + delay2 y + d + 1) (rangeKs 7 (hmonths y + 1 - 7).toNat)) (rangeKs 1 (m - 1).toNat)) = hto y m d := (if_pos h).symm
theorem hto_hi {y m d : Int} (h : ¬ m < 7) : mid (List.foldl (fun a' k' => a' + hml y k') (347996 + delay1 y + delay2 y + d + 1) (rangeKs 7 (m - 7).toNat)) = hto y m d := (if_neg h).symm
theorem gen_toks {M : Model} {A : Around} {α : Type} {T : Sem α} {Q : α → Shared → Prop} {E : Value → Shared → Prop} {h : Heap} {g : Array GenState} {d : Drawn} {tk : Nat} {os : OsState} (H : ∀ tk, wpAny M A T Q E ⟨h, g, d, tk, os⟩) : wpAny M A T Q E ⟨h, g, d, tk, os⟩ := H tk
theorem isTup_K {K : Frag} {h : Heap} {a : Addr} {items : Array Value} {n : Nat} {d : Option Addr} {sl : Array (Option Value)} (X : K.In h) (e : K.lookup a = some ⟨.type "tuple", d, .seq items n, sl⟩) : IsTup h a items := ⟨_, X _ _ e, rfl, n, rfl⟩
theorem in_tup_b {prog : Program} {w : World} {A : Around} {E : Value → Shared → Prop} {s : Shared} {t : Addr} {items : Array Value} {ns : List Int} {x : Int} {u : Tok} {Q : Value → Shared → Prop} (b : Bool) (ht : IsTup s.heap t items) (hi : IntsAre items.toList ns)
    (hb : ns.any (· == x) = b) (h : Q (.bool b) s) : wpAny (model prog w) A (compareOp .In (.int x u) (.ref t)) Q E s := in_tuple_ints ht hi (by rw [hb]; exact h)
theorem in_lst_b {prog : Program} {w : World} {A : Around} {E : Value → Shared → Prop} {s : Shared} {t : Addr} {vs : List Value} {ns : List Int} {x : Int} {u : Tok} {Q : Value → Shared → Prop} (b : Bool) (ht : s.heap.IsList t vs.toArray) (hi : IntsAre vs ns)
    (hb : ns.any (· == x) = b) (h : Q (.bool b) s) : wpAny (model prog w) A (compareOp .In (.int x u) (.ref t)) Q E s := in_list_ints ht hi (by rw [hb]; exact h)
end JB
end
section
open PySem PySem.W PyProof.Rows
namespace JB
theorem filt_len (p a : Int) (l : List Int) : ((List.filter (fun x => decide (x ≤ p)) (a :: l)).length : Int) = one a p + ((List.filter (fun x => decide (x ≤ p)) l).length : Int) := by
  unfold one
  rw [List.filter_cons]
  by_cases h : a ≤ p
  · simp only [h, decide_true, if_true, List.length_cons]; omega
  · simp only [h, decide_false, Bool.false_eq_true, if_false]; omega
theorem long_len (p : Int) : ((List.filter (fun x => decide (x ≤ p)) [3, 6, 8, 11, 14, 17, 19]).length : Int) = lcount p := by
  simp only [filt_len]
  unfold lcount
  simp only [List.filter_nil, List.length_nil]
  omega
section
variable {prog : Program} {w : World} {A : Around} {h₀ : Heap} {L c : Addr} {m : Str → Option Value} {env : Env} {o : Obj} {p : Int} {t : Tok} {cl : List (Str × Addr)} {s : Shared} {S : List (Addr × Obj) → Prop} {P : Nat → Value → Prop} {Fin : List Value → List (Addr × Obj) → Prop} {news : List (Addr × Obj)} {p1 p2 p3 p4 : Pos} {scope : Scope} {z : Int} {ns : List Int}
theorem comp_le (hcl : cl.lookup (Str.ofString "past") = some c) (hm : (c, o) ∈ news) (hd : o.data = .cell (some (.int p t)))
    (hkind : ∀ C, (compEnvC scope cl C env).scope.kind = .function) (hone : ∀ C, (compEnvC scope cl C env).kindOf (Str.ofString "one") = some .local) (hpast : ∀ C, (compEnvC scope cl C env).kindOf (Str.ofString "past") = some .cell)
    (hP : ∀ i v, P i v → ∃ x tk, ns[i]? = some x ∧ v = .int x tk) (hS : S news) (hz : ((ns.filter (fun x => decide (x ≤ p))).length : Int) = z) (fin : ∀ ys : List Value, (ys.length : Int) = z → Fin ys news) :
    ∀ (k i : Nat) (ys : List Value), i + k = ns.length → ys.length = ((ns.take i).filter (fun x => decide (x ≤ p))).length →
      LCt.CompRestT prog w A h₀ L m env (.Compare (.Name (Str.ofString "one") p1) [.LtE] [.Name (Str.ofString "past") p2] p3) (.Name (Str.ofString "one") p4) (Str.ofString "one") scope cl s S P Fin k i ys news := by
  intro k
  induction k with
  | zero =>
    intro i ys hi hy
    refine LCt.CompRestT.zero (fin ys ?_)
    rw [hy, List.take_of_length_le (by omega)]
    exact hz
  | succ k ih =>
    intro i ys hi hy
    refine LCt.CompRestT.succ ?_
    intro v I oI C oC D m₂ h tk E' hPv hC hx F N off ne
    obtain ⟨x, tx, hx', rfl⟩ := hP i v hPv
    have htake : ns.take (i + 1) = ns.take i ++ [x] := by rw [List.take_add_one, hx']; rfl
    refine wpAny_isTrue_Compare1 ?_
    refine LCgL.ld_own N (.tail _ (.head _)) hC hx ?_ (hkind C) (hone C)
    refine lcf_cell N hcl (.tail _ (.tail _ (.tail _ hm))) hd ?_ (hkind C) (hpast C)
    refine le_int ?_
    refine wpAny_truthy_bool ?_
    by_cases hxp : x ≤ p
    · rw [if_pos (by simpa using hxp)]
      refine LCgL.ld_own N (.tail _ (.head _)) hC hx ?_ (hkind C) (hone C)
      refine ⟨h, tk, news, rfl, F, N, off, hS, ih (i + 1) (ys ++ [.int x tx]) (by omega) ?_⟩
      rw [htake, List.filter_append, List.length_append, List.length_append, hy]
      simp [hxp]
    · rw [if_neg (by simpa using hxp)]
      refine ⟨h, tk, news, rfl, F, N, off, hS, ih (i + 1) ys (by omega) ?_⟩
      rw [htake, List.filter_append, List.length_append, hy]
      simp [hxp]
end
theorem len_J {prog : Program} {w : World} {A : Around} {E : Value → Shared → Prop} {s : Shared} {D : Addr} {ys : List Value} {z : Int} {Q : Value → Shared → Prop} {h₀ : Heap} {L : Addr} {news : List (Addr × Obj)} (N : News h₀ L s.heap news) (hm : (D, LCg.lst ys) ∈ news) (hy : (ys.length : Int) = z) (hz : z < 2 ^ 63)
    (h : Q (.int z (s.toks + 1)) { s with toks := s.toks + 1 + 1 }) : wpAny (model prog w) A (call (.builtin "len") [.ref D]) Q E s := by
  subst hy
  refine PySem.Calls.call_len_list (items := ys.toArray) ⟨_, (N _ hm).1, rfl, _, rfl⟩ (by rw [List.size_toArray]; exact hz) ?_
  rw [List.size_toArray]
  exact h
theorem ints7 {t1 t2 t3 t4 t5 t6 t7 : Tok} : ∀ (i : Nat) (v : Value), (#[Value.int 3 t1, .int 6 t2, .int 8 t3, .int 11 t4, .int 14 t5, .int 17 t6, .int 19 t7] : Array Value)[i]? = some v → ∃ x tk, ([3, 6, 8, 11, 14, 17, 19] : List Int)[i]? = some x ∧ v = .int x tk
  | 0, _, h => ⟨_, _, rfl, (Option.some.inj h).symm⟩
  | 1, _, h => ⟨_, _, rfl, (Option.some.inj h).symm⟩
  | 2, _, h => ⟨_, _, rfl, (Option.some.inj h).symm⟩
  | 3, _, h => ⟨_, _, rfl, (Option.some.inj h).symm⟩
  | 4, _, h => ⟨_, _, rfl, (Option.some.inj h).symm⟩
  | 5, _, h => ⟨_, _, rfl, (Option.some.inj h).symm⟩
  | 6, _, h => ⟨_, _, rfl, (Option.some.inj h).symm⟩
  | _ + 7, _, h => nomatch h
theorem tot_eq (y : Int) : 5 * 1080 + 204 + (235 * (y - 1).fdiv 19 + 12 * (y - 1).fmod 19 + lcount ((y - 1).fmod 19)) * (29 * 25920 + 12 * 1080 + 793) = ltot y := by
  rw [fd_nn _ (show (0 : Int) ≤ 19 by decide), fm_nn _ (show (0 : Int) ≤ 19 by decide)]
  unfold ltot lmoons
  omega
theorem day_a {y D : Int} (h : (5 * 1080 + 204 + (235 * (y - 1).fdiv 19 + 12 * (y - 1).fmod 19 + lcount ((y - 1).fmod 19)) * (29 * 25920 + 12 * 1080 + 793)).fdiv 25920 = D) : D = lday y := by
  rw [tot_eq, fd_nn _ (show (0 : Int) ≤ 25920 by decide)] at h; exact h.symm
theorem parts_a {y D : Int} (h : (5 * 1080 + 204 + (235 * (y - 1).fdiv 19 + 12 * (y - 1).fmod 19 + lcount ((y - 1).fmod 19)) * (29 * 25920 + 12 * 1080 + 793)).fmod 25920 = D) : D = lparts y := by
  rw [tot_eq, fm_nn _ (show (0 : Int) ≤ 25920 by decide)] at h; exact h.symm
theorem lcount_bd (p : Int) : lcount p < 2 ^ 63 := by
  have : ∀ a p : Int, one a p ≤ 1 := by intro a p; unfold one; split <;> decide
  have h1 := this 3 p; have h2 := this 6 p; have h3 := this 8 p; have h4 := this 11 p; have h5 := this 14 p; have h6 := this 17 p; have h7 := this 19 p
  unfold lcount
  omega

def NGood (mo d : Int) (m : Str → Option Value) (f : Int) : Prop := (∃ t, m (Str.ofString "first") = some (.int f t)) ∧ (∃ t, m (Str.ofString "month") = some (.int mo t)) ∧ (∃ t, m (Str.ofString "day") = some (.int d t))
abbrev tup2 (a b : Int) (t1 t2 : Tok) (k : Nat) : Obj := { cls := .type "tuple", data := .seq #[.int a t1, .int b t2] k }
theorem num_loop {prog : Program} {w : World} {A : Around} {E : Value → Shared → Prop} {h₀ : Heap} {env : Env} {target : Expr} {body : List Stmt} {Q : Flow → Shared → Prop} {s : Shared} {I : Addr} {keep news : List (Addr × Obj)} {mo d : Int}
    (hI : ∀ p ∈ news, p.1 < I) (hk : SubL keep news)
    (turn : ∀ (nw : List (Addr × Obj)) (T : Addr) (a l : Int) (ta tl : Tok) (k : Nat) (h : Heap) (tk : Nat) (m : Str → Option Value) (f : Int) (Q' : Flow → Shared → Prop), Fr h₀ env.locals h m → News h₀ env.locals h nw → (T, tup2 a l ta tl k) ∈ nw → NGood mo d m f →
      (a = mo → ∀ h' tk' m', Fr h₀ env.locals h' m' → News h₀ env.locals h' nw → NGood mo d m' f → Q' .brk { s with heap := h', toks := tk' }) →
      (a ≠ mo → ∀ h' tk' m', Fr h₀ env.locals h' m' → News h₀ env.locals h' nw → NGood mo d m' (f + l) → Q' .next { s with heap := h', toks := tk' }) →
      wpAny (model prog w) A (assign target env (.ref T)) (fun _ s₂ => wpAny (model prog w) A (execs body env) Q' E s₂) E { s with heap := h, toks := tk }) :
    ∀ (ps : List (Addr × Int × Int)) (m : Str → Option Value) (f : Int), NGood mo d m f → (∀ x ∈ ps, ∃ ta tl k, (x.1, tup2 x.2.1 x.2.2 ta tl k) ∈ news) →
      (∀ h tk m', Fr h₀ env.locals h m' → News h₀ env.locals h news → NGood mo d m' (runl mo f (ps.map (·.2))) → Q .next { s with heap := h, toks := tk }) →
      ItemsRest prog w A E h₀ env target body Q s [(I, "list_iterator")] keep (ps.map fun x => Itm.val (.ref x.1)) m news := by
  intro ps
  induction ps with
  | nil => intro m f g _ fin h tk F N; exact fin h tk m F N g
  | cons x r ih =>
    intro m f g hp fin v h tk hv F
    have hv' : v = .ref x.1 := hv
    subst hv'
    refine AllObj.cons fun o hc => AllObj.nil fun N => ?_
    obtain ⟨ta, tl, k, hm⟩ := hp x (.head _)
    refine turn _ x.1 x.2.1 x.2.2 ta tl k h tk m f _ F N (.tail _ hm) g (fun e h' tk' m' F' N' g' => ?_) (fun e h' tk' m' F' N' g' => ?_)
    · exact fin h' tk' m' F' (fun p hp => N' p (.tail _ hp)) (by rw [List.map_cons, runl, if_pos e]; exact g')
    · exact ⟨h', tk', m', news, rfl, F', N', fun p hp q hq => by rw [List.mem_singleton.mp hq]; exact Nat.ne_of_lt (hI p hp), hk,
        ih m' (f + x.2.2) g' (fun y hy => hp y (.tail _ hy)) (fun h2 tk2 m2 F2 N2 g2 => fin h2 tk2 m2 F2 N2 (by rw [List.map_cons, runl, if_neg e]; exact g2))⟩

theorem num_loop2 {prog : Program} {w : World} {A : Around} {E : Value → Shared → Prop} {h₀ : Heap} {env : Env} {target : Expr} {body : List Stmt} {Q : Flow → Shared → Prop} {s : Shared} {I : Addr} {keep news : List (Addr × Obj)} {mo d : Int} {vs : List Value} {m : Str → Option Value} {f : Int}
    (hI : ∀ p ∈ news, p.1 < I) (ps : List (Addr × Int × Int)) (hk : SubL keep news) (hvs : vs = ps.map fun x => Value.ref x.1) (hg : NGood mo d m f) (hp : ∀ x ∈ ps, ∃ ta tl k, (x.1, tup2 x.2.1 x.2.2 ta tl k) ∈ news)
    (turn : ∀ (nw : List (Addr × Obj)) (T : Addr) (a l : Int) (ta tl : Tok) (k : Nat) (h : Heap) (tk : Nat) (m : Str → Option Value) (f : Int) (Q' : Flow → Shared → Prop), Fr h₀ env.locals h m → News h₀ env.locals h nw → (T, tup2 a l ta tl k) ∈ nw → NGood mo d m f →
      (a = mo → ∀ h' tk' m', Fr h₀ env.locals h' m' → News h₀ env.locals h' nw → NGood mo d m' f → Q' .brk { s with heap := h', toks := tk' }) →
      (a ≠ mo → ∀ h' tk' m', Fr h₀ env.locals h' m' → News h₀ env.locals h' nw → NGood mo d m' (f + l) → Q' .next { s with heap := h', toks := tk' }) →
      wpAny (model prog w) A (assign target env (.ref T)) (fun _ s₂ => wpAny (model prog w) A (execs body env) Q' E s₂) E { s with heap := h, toks := tk })
    (fin : ∀ h tk m', Fr h₀ env.locals h m' → News h₀ env.locals h news → NGood mo d m' (runl mo f (ps.map (·.2))) → Q .next { s with heap := h, toks := tk }) :
      ItemsRest prog w A E h₀ env target body Q s [(I, "list_iterator")] keep (vs.map Itm.val) m news := by
  subst hvs
  rw [List.map_map]
  exact num_loop hI hk turn ps m f hg hp fin

section
variable {prog : Program} {w : World} {A : Around} {E : Value → Shared → Prop} {Q : Flow → Shared → Prop} {s : Shared} {env : Env} {h₀ : Heap} {L : Addr}
theorem While_J {test : Expr} {body : List Stmt} {pos : Pos} {m : Str → Option Value} {news : List (Addr × Obj)} (J : (Str → Option Value) → Nat → (Str → Option Value) → Prop) {n₀ : Nat}
    (F : Fr h₀ L s.heap m) (N : News h₀ L s.heap news) (hJ : J m n₀ m)
    (turn : ∀ n m₁ h₁ tk₁, Fr h₀ L h₁ m₁ → News h₀ L h₁ news → J m n m₁ →
      wpAny (model prog w) A (isTrue test env (eval test env)) (fun b s₂ =>
        if b = true then wpAny (model prog w) A (execs body env) (WhileStep h₀ L s (fun n m₁ news₁ => news₁ = news ∧ J m n m₁) n) E s₂ else Q .next s₂) E { s with heap := h₁, toks := tk₁ })
    (hE : PassesOwn (model prog w) A env E := by passes_own) :
    wpAny (model prog w) A (exec (.While test body [] pos) env) Q E s := by
  refine While_inv (fun n m₁ news₁ => news₁ = news ∧ J m n m₁) F N ⟨rfl, hJ⟩ (fun n m₁ news₁ h₁ tk₁ F₁ N₁ hJ₁ => ?_) hE
  obtain ⟨rfl, hJ₁⟩ := hJ₁
  exact turn n m₁ h₁ tk₁ F₁ N₁ hJ₁
end
def WJ1 (j : Int) (_m : Str → Option Value) (n : Nat) (m₁ : Str → Option Value) : Prop :=
  ∃ Y t1 t2, m₁ (Str.ofString "year") = some (.int Y t1) ∧ m₁ (Str.ofString "number") = some (.int j t2) ∧ n = (lfirst Y - j).toNat
def WJ2 (j : Int) (_m : Str → Option Value) (n : Nat) (m₁ : Str → Option Value) : Prop :=
  ∃ Y t1 t2, m₁ (Str.ofString "year") = some (.int Y t1) ∧ m₁ (Str.ofString "number") = some (.int j t2) ∧ lfirst Y ≤ j ∧ n = (j - lfirst Y).toNat
def WJ3 (d0 l : Int) (m : Str → Option Value) (n : Nat) (m₁ : Str → Option Value) : Prop :=
  m₁ (Str.ofString "lengths") = m (Str.ofString "lengths") ∧ m₁ (Str.ofString "year") = m (Str.ofString "year") ∧
  ∃ M D t1 t2, m₁ (Str.ofString "month") = some (.int M t1) ∧ m₁ (Str.ofString "day") = some (.int D t2) ∧ 1 ≤ D ∧
    (1 ≤ M ∧ M ≤ 12 ∧ D = d0 - cumL l M) ∧ n = D.toNat
theorem dec1 {Y j : Int} (h : j < lfirst Y) : (lfirst (Y - 1) - j).toNat < (lfirst Y - j).toNat := by
  have h1 := lfirst_span (Y - 1)
  have h2 := lq_bd (Y - 1)
  rw [Int.sub_add_cancel] at h1
  omega
theorem inc2 {Y j : Int} (h : lfirst (Y + 1) ≤ j) : (j - lfirst (Y + 1)).toNat < (j - lfirst Y).toNat := by
  have h1 := lfirst_span Y
  have h2 := lq_bd Y
  omega

theorem unrEndW_one {h₀ h' : Heap} {L I : Addr} {s₁ : Shared} {o : Obj} {rest : (Str → Option Value) → List (Addr × Obj) → Prop} {m' : Str → Option Value} {nw : List (Addr × Obj)} {tk : Nat} (F : Fr h₀ L h' m') (N : News h₀ L h' ((I, o) :: nw)) (hI : ∀ p ∈ nw, p.1 < I) (r : rest m' nw) :
    UnrEndW h₀ L s₁ [(I, o)] rest { s₁ with heap := h', toks := tk } :=
  ⟨h', tk, m', nw, rfl, F, N, fun p hp q hq => by rw [List.mem_singleton.mp hq]; exact Nat.ne_of_lt (hI p hp), r⟩
theorem execs_cut1 {M : Model} {A : Around} {a : Stmt} {rest : List Stmt} {env : Env} {Q : Flow → Shared → Prop} {E : Value → Shared → Prop} {s : Shared} (P : Shared → Shared → Prop)
    (h : wpAny M A (exec a env) (fun f s1 => f = .next ∧ P s s1) E s)
    (k : ∀ s2, P s s2 → wpAny M A (execs rest env) Q E s2) : wpAny M A (execs (a :: rest) env) Q E s := by
  refine wpAny_execs_cons (wpAny_mono h (fun f s1 h1 => ?_) fun _ _ e => e)
  obtain ⟨rfl, h1⟩ := h1
  exact k s1 h1
/-- the post of a cut: the map and the ledger there -/
def GCut {h₀ h : Heap} {L : Addr} {m : Str → Option Value} {news : List (Addr × Obj)} (_F : Fr h₀ L h m) (_N : News h₀ L h news) (R : (Str → Option Value) → List (Addr × Obj) → Prop) (s s2 : Shared) : Prop :=
  ∃ h' tk m' nw, s2 = { s with heap := h', toks := tk } ∧ Fr h₀ L h' m' ∧ News h₀ L h' nw ∧ R m' nw
/-- the same where the ledger stays as it was -/
def GCutS {h₀ h : Heap} {L : Addr} {m : Str → Option Value} {news : List (Addr × Obj)} (_F : Fr h₀ L h m) (_N : News h₀ L h news) (R : (Str → Option Value) → Prop) (s s2 : Shared) : Prop :=
  ∃ h' tk m', s2 = { s with heap := h', toks := tk } ∧ Fr h₀ L h' m' ∧ News h₀ L h' news ∧ R m'
@[irreducible] def pick (b : Bool) (x y : Int) : Int := if b = true then x else y
theorem pick_t (x y : Int) : pick true x y = x := by unfold pick; rfl
theorem pick_f (x y : Int) : pick false x y = y := by unfold pick; rfl
theorem ifexp_int {M : Model} {A : Around} {E : Value → Shared → Prop} {s : Shared} {env : Env} {test : Expr} {x y : Int} {kx ky : Addr} {px py pos : Pos} {Q : Value → Shared → Prop}
    (h : wpAny M A (isTrue test env (eval test env)) (fun b s₁ => Q (.int (pick b x y) s₁.toks) { s₁ with toks := s₁.toks + 1 }) E s) :
    wpAny M A (eval (.IfExp test (.Constant (.int x) kx px) (.Constant (.int y) ky py) pos) env) Q E s :=
  IfExp_ (wpAny_mono h (fun b s1 h1 => by cases b <;> simp only [pick_t, pick_f] at h1 <;> exact wpAny_Constant_int h1) fun _ _ e => e)
theorem fadj_a {j x : Int} (hx : x = 0 ∧ j - gto (fy j) 1 1 < 58 + (if isleap (fy j) = true then 1 else 0) ∨ x = 1 ∧ ¬ (j - gto (fy j) 1 1 < 58 + (if isleap (fy j) = true then 1 else 0)) ∧ isleap (fy j) = true ∨ x = 2 ∧ ¬ (j - gto (fy j) 1 1 < 58 + (if isleap (fy j) = true then 1 else 0)) ∧ isleap (fy j) = false) : x = fadj j := by
  unfold fadj fyd
  rcases hx with ⟨rfl, h⟩ | ⟨rfl, h1, h2⟩ | ⟨rfl, h1, h2⟩
  · rw [if_pos h]
  · rw [if_neg h1, if_pos h2]
  · rw [if_neg h1, if_neg (by rw [h2]; decide)]
theorem fm_b {j : Int} : ((j - gto (fy j) 1 1 + fadj j) * 12 + 373) / 367 = fm j := rfl
theorem beq_dec (a m : Int) : (a == m) = decide (m = a) := by
  show decide (a = m) = decide (m = a)
  exact decide_eq_decide.mpr eq_comm
theorem any4 (m : Int) : ([4, 6, 9, 11] : List Int).any (fun x => x == m) = decide (m = 4 ∨ m = 6 ∨ m = 9 ∨ m = 11) := by
  simp only [List.any_cons, List.any_nil, Bool.or_false, Bool.decide_or, beq_dec]
theorem gdim_ways {y m d : Int} (h : d ≤ gdim y m) : (m = 2 ∧ isleap y = true ∧ d ≤ 29) ∨ (m = 2 ∧ isleap y = false ∧ d ≤ 28) ∨ (m ≠ 2 ∧ ([4, 6, 9, 11] : List Int).any (fun x => x == m) = true ∧ d ≤ 30) ∨ (m ≠ 2 ∧ ([4, 6, 9, 11] : List Int).any (fun x => x == m) = false ∧ d ≤ 31) := by
  rw [any4]
  unfold gdim at h
  by_cases h2 : m = 2
  · rw [if_pos h2] at h
    cases hl : isleap y
    · rw [hl, if_neg (by decide)] at h; exact .inr (.inl ⟨h2, rfl, h⟩)
    · rw [hl, if_pos rfl] at h; exact .inl ⟨h2, rfl, h⟩
  · rw [if_neg h2] at h
    by_cases h4 : m = 4 ∨ m = 6 ∨ m = 9 ∨ m = 11
    · rw [if_pos h4] at h; exact .inr (.inr (.inl ⟨h2, decide_eq_true h4, h⟩))
    · rw [if_neg h4] at h; exact .inr (.inr (.inr ⟨h2, decide_eq_false h4, h⟩))
theorem any5 (m : Int) : ([2, 4, 6, 10, 13] : List Int).any (fun x => x == m) = decide (m = 2 ∨ m = 4 ∨ m = 6 ∨ m = 10 ∨ m = 13) := by
  simp only [List.any_cons, List.any_nil, Bool.or_false, Bool.decide_or, beq_dec]
section
variable {y m : Int}
theorem hml_1 (h : ([2, 4, 6, 10, 13] : List Int).any (fun x => x == m) = true) : 29 = hml y m := by
  rw [any5] at h; unfold hml; rw [if_pos (of_decide_eq_true h)]
theorem hml_0 (h : ([2, 4, 6, 10, 13] : List Int).any (fun x => x == m) = false) : hml y m = if m = 12 ∧ ¬ hleap y = true then 29 else if m = 8 ∧ ¬ hyd y % 10 = 5 then 29 else if m = 9 ∧ hyd y % 10 = 3 then 29 else 30 := by
  rw [any5] at h; unfold hml; rw [if_neg (of_decide_eq_false h)]
theorem hml_2 (h : ([2, 4, 6, 10, 13] : List Int).any (fun x => x == m) = false) (h1 : m = 12) (h2 : hleap y = true) : 30 = hml y m := by
  rw [hml_0 h, if_neg (fun q => q.2 h2), if_neg (by rw [h1]; exact fun q => absurd q.1 (by decide)), if_neg (by rw [h1]; exact fun q => absurd q.1 (by decide))]
theorem hml_3 (h : ([2, 4, 6, 10, 13] : List Int).any (fun x => x == m) = false) (h1 : m = 12) (h2 : hleap y = false) : 29 = hml y m := by
  rw [hml_0 h, if_pos ⟨h1, by rw [h2]; decide⟩]
theorem hml_4 (h : ([2, 4, 6, 10, 13] : List Int).any (fun x => x == m) = false) (h1 : m ≠ 12) (h2 : m = 8) (h3 : (hyd y).fmod 10 ≠ 5) : 29 = hml y m := by
  rw [fm_nn _ (show (0 : Int) ≤ 10 by decide)] at h3
  rw [hml_0 h, if_neg (fun q => h1 q.1), if_pos ⟨h2, h3⟩]
theorem hml_5 (h : ([2, 4, 6, 10, 13] : List Int).any (fun x => x == m) = false) (h1 : m ≠ 12) (h2 : m = 8) (h3 : (hyd y).fmod 10 = 5) : 30 = hml y m := by
  rw [fm_nn _ (show (0 : Int) ≤ 10 by decide)] at h3
  rw [hml_0 h, if_neg (fun q => h1 q.1), if_neg (fun q => q.2 h3), if_neg (by rw [h2]; exact fun q => absurd q.1 (by decide))]
theorem hml_6 (h : ([2, 4, 6, 10, 13] : List Int).any (fun x => x == m) = false) (h1 : m ≠ 12) (h2 : m ≠ 8) (h4 : m = 9) (h3 : (hyd y).fmod 10 = 3) : 29 = hml y m := by
  rw [fm_nn _ (show (0 : Int) ≤ 10 by decide)] at h3
  rw [hml_0 h, if_neg (fun q => h1 q.1), if_neg (fun q => h2 q.1), if_pos ⟨h4, h3⟩]
theorem hml_7 (h : ([2, 4, 6, 10, 13] : List Int).any (fun x => x == m) = false) (h1 : m ≠ 12) (h2 : m ≠ 8) (h4 : m = 9) (h3 : (hyd y).fmod 10 ≠ 3) : 30 = hml y m := by
  rw [fm_nn _ (show (0 : Int) ≤ 10 by decide)] at h3
  rw [hml_0 h, if_neg (fun q => h1 q.1), if_neg (fun q => h2 q.1), if_neg (fun q => h3 q.2)]
theorem hml_8 (h : ([2, 4, 6, 10, 13] : List Int).any (fun x => x == m) = false) (h1 : m ≠ 12) (h2 : m ≠ 8) (h4 : m ≠ 9) : 30 = hml y m := by
  rw [hml_0 h, if_neg (fun q => h1 q.1), if_neg (fun q => h2 q.1), if_neg (fun q => h4 q.1)]
end
theorem llong_any (y : Int) : ([3, 6, 8, 11, 14, 17, 19] : List Int).any (fun x => x == (y - 1).fmod 19 + 1) = llong y := by
  rw [fm_nn _ (show (0 : Int) ≤ 19 by decide)]
  unfold llong
  simp only [List.any_cons, List.any_nil, Bool.or_false, Bool.decide_or, beq_dec]
theorem lday1_f (y : Int) : lday1 y = if 18 * 1080 ≤ lparts y then lday y + 1 else if (lday y).fmod 7 = 1 ∧ 9 * 1080 + 204 ≤ lparts y ∧ ¬ llong y = true then lday y + 1 else if (lday y).fmod 7 = 0 ∧ 15 * 1080 + 589 ≤ lparts y ∧ llong (y - 1) = true then lday y + 1 else lday y := by
  rw [fm_nn _ (show (0 : Int) ≤ 7 by decide)]; rfl
section
variable {y : Int}
theorem ld_1 (h : 18 * 1080 ≤ lparts y) : lday y + 1 = lday1 y := by rw [lday1_f, if_pos h]
theorem ld_2 (h : ¬ 18 * 1080 ≤ lparts y) (h1 : (lday y).fmod 7 = 1) (h3 : llong y = true) : lday y = lday1 y := by
  rw [lday1_f, if_neg h, if_neg (fun q => q.2.2 h3), if_neg (by rw [h1]; exact fun q => absurd q.1 (by decide))]
theorem ld_3 (h : ¬ 18 * 1080 ≤ lparts y) (h1 : (lday y).fmod 7 = 1) (h2 : 9 * 1080 + 204 ≤ lparts y) (h3 : llong y = false) : lday y + 1 = lday1 y := by
  rw [lday1_f, if_neg h, if_pos ⟨h1, h2, by rw [h3]; decide⟩]
theorem ld_4 (h : ¬ 18 * 1080 ≤ lparts y) (h1 : (lday y).fmod 7 = 1) (h2 : ¬ 9 * 1080 + 204 ≤ lparts y) : lday y = lday1 y := by
  rw [lday1_f, if_neg h, if_neg (fun q => h2 q.2.1), if_neg (by rw [h1]; exact fun q => absurd q.1 (by decide))]
theorem ld_5 (h : ¬ 18 * 1080 ≤ lparts y) (h1 : (lday y).fmod 7 ≠ 1) (h2 : (lday y).fmod 7 = 0) (h3 : 15 * 1080 + 589 ≤ lparts y) (h4 : llong (y - 1) = true) : lday y + 1 = lday1 y := by
  rw [lday1_f, if_neg h, if_neg (fun q => h1 q.1), if_pos ⟨h2, h3, h4⟩]
theorem ld_6 (h : ¬ 18 * 1080 ≤ lparts y) (h1 : (lday y).fmod 7 ≠ 1) (h4 : llong (y - 1) = false) : lday y = lday1 y := by
  rw [lday1_f, if_neg h, if_neg (fun q => h1 q.1), if_neg (by rw [h4]; exact fun q => absurd q.2.2 (by decide))]
theorem ld_7 (h : ¬ 18 * 1080 ≤ lparts y) (h1 : (lday y).fmod 7 ≠ 1) (h3 : ¬ 15 * 1080 + 589 ≤ lparts y) : lday y = lday1 y := by
  rw [lday1_f, if_neg h, if_neg (fun q => h1 q.1), if_neg (fun q => h3 q.2.1)]
theorem ld_8 (h : ¬ 18 * 1080 ≤ lparts y) (h1 : (lday y).fmod 7 ≠ 1) (h2 : (lday y).fmod 7 ≠ 0) : lday y = lday1 y := by
  rw [lday1_f, if_neg h, if_neg (fun q => h1 q.1), if_neg (fun q => h2 q.1)]
theorem any3 (m : Int) : ([2, 4, 6] : List Int).any (fun x => x == m) = decide (m = 2 ∨ m = 4 ∨ m = 6) := by
  simp only [List.any_cons, List.any_nil, Bool.or_false, Bool.decide_or, beq_dec]
theorem lny_1 (h : ([2, 4, 6] : List Int).any (fun x => x == (lday1 y).fmod 7) = true) : 347998 + (lday1 y + 1) = lny y := by
  rw [any3, fm_nn _ (show (0 : Int) ≤ 7 by decide)] at h; unfold lny; rw [if_pos (of_decide_eq_true h)]
theorem lny_2 (h : ([2, 4, 6] : List Int).any (fun x => x == (lday1 y).fmod 7) = false) : 347998 + lday1 y = lny y := by
  rw [any3, fm_nn _ (show (0 : Int) ≤ 7 by decide)] at h; unfold lny; rw [if_neg (of_decide_eq_false h)]
end
end JB
end
section
namespace JB
theorem adu_bd' (x : Int) : x ≤ adu x ∧ adu x ≤ x + 1 := adu_bd x
theorem lday1_bd (y : Int) : lday y ≤ lday1 y ∧ lday1 y ≤ lday y + 1 := by
  unfold lday1; repeat' split
  all_goals omega
theorem lny_bd (y : Int) : 347998 + lday y ≤ lny y ∧ lny y ≤ 347998 + lday y + 2 := by
  rw [lny_adu]
  have h1 := lday1_bd y
  have h2 := adu_bd (lday1 y)
  omega
theorem lny_pos {y : Int} (h : 1 ≤ y) : 0 < lny y := by
  have h1 := lny_bd y
  have h2 : 0 ≤ lday y := by unfold lday ltot; rw [moons_eq]; omega
  omega
theorem hny_eq {y : Int} (h : 1 ≤ y) : hny y = lny y := by
  unfold hny mid
  rw [ny_core, if_pos (lny_pos h)]
theorem hyd_eq {y : Int} (h : 1 ≤ y) : hyd y = lspan y := by
  unfold hyd lspan
  rw [hny_eq h, hny_eq (show 1 ≤ y + 1 by omega)]
theorem hsum_sh (y e : Int) : ∀ (l : List Int) (x : Int), hsum y (x + e) l = hsum y x l + e
  | [], _ => rfl
  | k :: r, x => by
    show hsum y (x + e + hml y k) r = hsum y (x + hml y k) r + e
    rw [Int.add_right_comm]; exact hsum_sh y e r _
theorem hml_nn (y m : Int) : 0 ≤ hml y m := by unfold hml; repeat' split
                                               all_goals decide
theorem hsum_ge (y : Int) : ∀ (l : List Int) (x : Int), x ≤ hsum y x l
  | [], _ => Int.le_refl _
  | k :: r, x => Int.le_trans (Int.le_add_of_nonneg_right (hml_nn y k)) (hsum_ge y r (x + hml y k))
/-- the months' lengths, three of them letters -/
def hmt (a b c k : Int) : Int := if k = 2 ∨ k = 4 ∨ k = 6 ∨ k = 10 ∨ k = 13 then 29 else if k = 12 then c else if k = 8 then a else if k = 9 then b else 30
theorem hml_t {y : Int} (h : 1 ≤ y) (k : Int) : hml y k = hmt (if lspan y % 10 = 5 then 30 else 29) (if lspan y % 10 = 3 then 29 else 30) (if hleap y = true then 30 else 29) k := by
  unfold hml hmt
  rw [hyd_eq h]
  generalize lspan y = s
  by_cases h1 : k = 2 ∨ k = 4 ∨ k = 6 ∨ k = 10 ∨ k = 13
  · rw [if_pos h1, if_pos h1]
  · rw [if_neg h1, if_neg h1]
    by_cases h2 : k = 12
    · rw [if_pos h2]
      subst h2
      cases hleap y <;> rfl
    · rw [if_neg h2, if_neg (fun q => h2 q.1)]
      by_cases h3 : k = 8
      · rw [if_pos h3]
        subst h3
        by_cases h5 : s % 10 = 5
        · rw [if_pos h5, if_neg (fun q => q.2 h5)]; rfl
        · rw [if_neg h5, if_pos ⟨rfl, h5⟩]
      · rw [if_neg h3, if_neg (fun q => h3 q.1)]
        by_cases h4 : k = 9
        · rw [if_pos h4]
          by_cases h5 : s % 10 = 3
          · rw [if_pos h5, if_pos ⟨h4, h5⟩]
          · rw [if_neg h5, if_neg (fun q => h5 q.2)]
        · rw [if_neg h4, if_neg (fun q => h4 q.1)]
theorem hsum_t {y : Int} (h : 1 ≤ y) (x : Int) (l : List Int) : hsum y x l = l.foldl (fun a' k' => a' + hmt (if lspan y % 10 = 5 then 30 else 29) (if lspan y % 10 = 3 then 29 else 30) (if hleap y = true then 30 else 29) k') x := by
  unfold hsum
  simp only [hml_t h]
theorem m_cases {m : Int} (h1 : 1 ≤ m) (h2 : m ≤ 13) : m = 1 ∨ m = 2 ∨ m = 3 ∨ m = 4 ∨ m = 5 ∨ m = 6 ∨ m = 7 ∨ m = 8 ∨ m = 9 ∨ m = 10 ∨ m = 11 ∨ m = 12 ∨ m = 13 := by
  have f : ∀ n : Nat, n < 14 → 1 ≤ (n : Int) → ((n : Int) = 1 ∨ (n : Int) = 2 ∨ (n : Int) = 3 ∨ (n : Int) = 4 ∨ (n : Int) = 5 ∨ (n : Int) = 6 ∨ (n : Int) = 7 ∨ (n : Int) = 8 ∨ (n : Int) = 9 ∨ (n : Int) = 10 ∨ (n : Int) = 11 ∨ (n : Int) = 12 ∨ (n : Int) = 13) := by decide
  obtain ⟨n, hn, rfl⟩ := nat_of (Int.le_trans (by decide) h1) (Int.lt_add_one_of_le h2)
  exact f n (Int.ofNat_lt.mp hn) h1
/-- the months' lengths summed in the program's order and in the law's -/
theorem sums_eq {y m : Int} (h : 1 ≤ y) (hm : (1 ≤ m ∧ m ≤ 12) ∨ (m = 13 ∧ hleap y = true)) (x : Int) :
    (if m < 7 then hsum y (hsum y x (rks 7 (hmonths y + 1 - 7).toNat)) (rks 1 (m - 1).toNat) else hsum y x (rks 7 (m - 7).toNat)) = runl m x (lpairs y) := by
  rw [hsum_t h, hsum_t h, hsum_t h]
  unfold lpairs hmonths
  rw [llong_eq]
  generalize (if lspan y % 10 = 5 then (30 : Int) else 29) = a
  generalize (if lspan y % 10 = 3 then (29 : Int) else 30) = b
  have h13 : hleap y = false → m ≤ 12 := fun e => hm.elim (fun q => q.2) (fun q => absurd (e.symm.trans q.2) (by decide))
  have hm' : 1 ≤ m ∧ m ≤ 13 := hm.elim (fun q => ⟨q.1, Int.le_trans q.2 (by decide)⟩) (fun q => by rw [q.1]; decide)
  generalize hleap y = l at *
  clear hm h
  obtain ⟨h1, h2⟩ := hm'
  cases l
  · have := h13 rfl
    rcases m_cases h1 h2 with rfl | rfl | rfl | rfl | rfl | rfl | rfl | rfl | rfl | rfl | rfl | rfl | rfl
    case inr.inr.inr.inr.inr.inr.inr.inr.inr.inr.inr.inr => exact absurd this (by decide)
    all_goals rfl
  · rcases m_cases h1 h2 with rfl | rfl | rfl | rfl | rfl | rfl | rfl | rfl | rfl | rfl | rfl | rfl | rfl
    all_goals rfl
theorem hto_eq {y m d : Int} (h : 1 ≤ y) (hd : 1 ≤ d) (hm : (1 ≤ m ∧ m ≤ 12) ∨ (m = 13 ∧ hleap y = true)) : hto y m d = lnum y m d := by
  have e : 347996 + delay1 y + delay2 y + d + 1 = lny y + (d - 1) := by
    have := ny_core y; omega
  have hp : 0 < lny y + (d - 1) := by have := lny_pos h; omega
  unfold lnum
  rw [← sums_eq h hm, Int.add_sub_assoc]
  unfold hto mid
  rw [e]
  split
  · rw [if_pos (Int.lt_of_lt_of_le hp (Int.le_trans (hsum_ge ..) (hsum_ge ..))), hsum_sh, hsum_sh]
  · rw [if_pos (Int.lt_of_lt_of_le hp (hsum_ge ..)), hsum_sh]
theorem fy_iff (y n : Int) : fy n = y ↔ lfirst y ≤ n ∧ n < lfirst (y + 1) := by
  constructor
  · rintro rfl; exact fy_bounds n
  · rintro ⟨a, b⟩; exact (fy_unique a b).symm
theorem purim_bd {y : Int} (h1 : 1 ≤ y) (h2 : y ≤ 9999) (hl : hleap (y + 3760) = true) : lfirst y ≤ lnum (y + 3760) 13 14 ∧ lnum (y + 3760) 13 14 < lfirst (y + 1) := by
  have e : lnum (y + 3760) 13 14 = lny (y + 3760) + (if lspan (y + 3760) % 10 = 5 then 30 else 29) + (if lspan (y + 3760) % 10 = 3 then 29 else 30) + 132 := by
    unfold lnum lpairs
    rw [llong_eq, hl]
    simp [runl]
    omega
  rw [e]
  have hb := lny_bd (y + 3760)
  have hs := lfirst_span y
  have hq := lq_bd y
  have hf : lfirst y = 1721426 + 365 * (y - 1) + (y - 1) / 4 - (y - 1) / 100 + (y - 1) / 400 := by
    rw [lfirst_eq]; unfold gto; rw [show gadj y 1 = 0 from rfl]; omega
  have hd : lday (y + 3760) = (5604 + (235 * (y + 3760) - 234) / 19 * 765433) / 25920 := by unfold lday ltot; rw [moons_eq]
  have b1 : 29 ≤ (if lspan (y + 3760) % 10 = 5 then (30 : Int) else 29) ∧ (if lspan (y + 3760) % 10 = 5 then (30 : Int) else 29) ≤ 30 := by split <;> decide
  have b2 : 29 ≤ (if lspan (y + 3760) % 10 = 3 then (29 : Int) else 30) ∧ (if lspan (y + 3760) % 10 = 3 then (29 : Int) else 30) ≤ 30 := by split <;> decide
  generalize (if lspan (y + 3760) % 10 = 5 then (30 : Int) else 29) = a at *
  generalize (if lspan (y + 3760) % 10 = 3 then (29 : Int) else 30) = b at *
  have hs' : lfirst (y + 1) ≥ lfirst y + 365 := by omega
  generalize lfirst (y + 1) = F1 at *
  generalize lfirst y = F0 at *
  generalize lny (y + 3760) = N at *
  generalize lday (y + 3760) = D at *
  clear e hl hs hq
  constructor <;> omega
end JB
end
section
open PySem PySem.W PyProof.Rows PySem.Calls
namespace JB
/-- the three ways of a Hebrew date (m, d) in the Gregorian year y -/
theorem found_tri {y m d : Int} (h1 : 1 ≤ y) (hd : 1 ≤ d) (hm : 1 ≤ m ∧ m ≤ 12) :
    (lfirst y ≤ lnum (y + 3760) m d ∧ lnum (y + 3760) m d < lfirst (y + 1) ∧ fy (hto (y + 3760) m d) = y ∧ hto (y + 3760) m d = lnum (y + 3760) m d) ∨
    (¬ (lfirst y ≤ lnum (y + 3760) m d ∧ lnum (y + 3760) m d < lfirst (y + 1)) ∧ lfirst y ≤ lnum (y + 3761) m d ∧ lnum (y + 3761) m d < lfirst (y + 1) ∧ fy (hto (y + 3760) m d) ≠ y ∧ fy (hto (y + 3760 + 1) m d) = y ∧ hto (y + 3760 + 1) m d = lnum (y + 3761) m d) ∨
    (¬ (lfirst y ≤ lnum (y + 3760) m d ∧ lnum (y + 3760) m d < lfirst (y + 1)) ∧ ¬ (lfirst y ≤ lnum (y + 3761) m d ∧ lnum (y + 3761) m d < lfirst (y + 1)) ∧ fy (hto (y + 3760) m d) ≠ y ∧ fy (hto (y + 3760 + 1) m d) ≠ y) := by
  have e1 : hto (y + 3760) m d = lnum (y + 3760) m d := hto_eq (by omega) hd (.inl hm)
  have e2 : hto (y + 3760 + 1) m d = lnum (y + 3761) m d := by
    rw [show y + 3760 + 1 = y + 3761 by omega]; exact hto_eq (by omega) hd (.inl hm)
  have f1 := fy_iff y (hto (y + 3760) m d)
  have f2 := fy_iff y (hto (y + 3760 + 1) m d)
  rw [e1] at f1
  rw [e2] at f2
  by_cases A : lfirst y ≤ lnum (y + 3760) m d ∧ lnum (y + 3760) m d < lfirst (y + 1)
  · exact .inl ⟨A.1, A.2, by rw [e1]; exact f1.mpr A, e1⟩
  · by_cases B : lfirst y ≤ lnum (y + 3761) m d ∧ lnum (y + 3761) m d < lfirst (y + 1)
    · exact .inr (.inl ⟨A, B.1, B.2, by rw [e1]; exact fun h => A (f1.mp h), by rw [e2]; exact f2.mpr B, e2⟩)
    · exact .inr (.inr ⟨A, B, by rw [e1]; exact fun h => A (f1.mp h), by rw [e2]; exact fun h => B (f2.mp h)⟩)
theorem found_purim {y : Int} (h1 : 1 ≤ y) (h2 : y ≤ 9999) (hl : hleap (y + 3760) = true) :
    lfirst y ≤ lnum (y + 3760) 13 14 ∧ lnum (y + 3760) 13 14 < lfirst (y + 1) ∧ fy (hto (y + 3760) 13 14) = y ∧ hto (y + 3760) 13 14 = lnum (y + 3760) 13 14 := by
  have e1 : hto (y + 3760) 13 14 = lnum (y + 3760) 13 14 := hto_eq (by omega) (by decide) (.inr ⟨rfl, hl⟩)
  have A := purim_bd h1 h2 hl
  exact ⟨A.1, A.2, (fy_iff y _).mpr (by rw [e1]; exact A), e1⟩
theorem execs_cut2 {M : Model} {A : Around} {a b : Stmt} {rest : List Stmt} {env : Env} {Q : Flow → Shared → Prop} {E : Value → Shared → Prop} {s : Shared} (P : Shared → Prop)
    (h : wpAny M A (exec a env) (fun f s1 => f = .next ∧ wpAny M A (exec b env) (fun f s2 => f = .next ∧ P s2) E s1) E s)
    (k : ∀ s2, P s2 → wpAny M A (execs rest env) Q E s2) : wpAny M A (execs (a :: b :: rest) env) Q E s := by
  refine wpAny_execs_cons (wpAny_mono h (fun f s1 h1 => ?_) fun _ _ e => e)
  obtain ⟨rfl, h1⟩ := h1
  refine wpAny_execs_cons (wpAny_mono h1 (fun f s2 h2 => ?_) fun _ _ e => e)
  obtain ⟨rfl, h2⟩ := h2
  exact k s2 h2
def KGood (y : Int) (ev : Bool) (m : Str → Option Value) : Prop := (∃ t, m (Str.ofString "year") = some (.int y t)) ∧ m (Str.ofString "eve") = some (.bool ev)
theorem kind_loop {prog : Program} {w : World} {A : Around} {E : Value → Shared → Prop} {h₀ : Heap} {env : Env} {target : Expr} {body : List Stmt} {Q : Flow → Shared → Prop} {s : Shared} {I : Addr} {keep news : List (Addr × Obj)} {y : Int} {ev : Bool}
    (hI : ∀ p ∈ news, p.1 < I) (hk : SubL keep news)
    (turn : ∀ (nw : List (Addr × Obj)) (k : Int) (t : Tok) (h : Heap) (tk : Nat) (m : Str → Option Value) (Q' : Flow → Shared → Prop), 0 ≤ k → k ≤ 10 → Fr h₀ env.locals h m → News h₀ env.locals h nw → KGood y ev m →
      (∀ h' tk' m', Fr h₀ env.locals h' m' → News h₀ env.locals h' nw → KGood y ev m' → Q' .next { s with heap := h', toks := tk' }) →
      wpAny (model prog w) A (assign target env (.int k t)) (fun _ s₂ => wpAny (model prog w) A (execs body env) Q' E s₂) E { s with heap := h, toks := tk }) :
    ∀ (ks : List (Int × Tok)) (m : Str → Option Value), KGood y ev m → (∀ x ∈ ks, 0 ≤ x.1 ∧ x.1 ≤ 10) →
      (∀ h tk m', Fr h₀ env.locals h m' → News h₀ env.locals h news → KGood y ev m' → Q .next { s with heap := h, toks := tk }) →
      ItemsRest prog w A E h₀ env target body Q s [(I, "tuple_iterator")] keep (ks.map fun x => Itm.val (.int x.1 x.2)) m news := by
  intro ks
  induction ks with
  | nil => intro m g _ fin h tk F N; exact fin h tk m F N g
  | cons x r ih =>
    intro m g hb fin v h tk hv F
    have hv' : v = .int x.1 x.2 := hv
    subst hv'
    refine AllObj.cons fun o hc => AllObj.nil fun N => ?_
    refine turn _ x.1 x.2 h tk m _ (hb x (.head _)).1 (hb x (.head _)).2 F N g (fun h' tk' m' F' N' g' => ?_)
    exact ⟨h', tk', m', news, rfl, F', N', fun p hp q hq => by rw [List.mem_singleton.mp hq]; exact Nat.ne_of_lt (hI p hp), hk,
      ih m' g' (fun y hy => hb y (.tail _ hy)) fin⟩

theorem execs_cutP {M : Model} {A : Around} {a b : Stmt} {rest : List Stmt} {env : Env} {Q : Flow → Shared → Prop} {E : Value → Shared → Prop} {s : Shared} (P : Shared → Shared → Prop)
    (h : wpAny M A (exec a env) (fun f s1 => f = .next ∧ wpAny M A (exec b env) (fun f s2 => f = .next ∧ P s s2) E s1) E s)
    (k : ∀ s2, P s s2 → wpAny M A (execs rest env) Q E s2) : wpAny M A (execs (a :: b :: rest) env) Q E s := execs_cut2 (P s) h k
def PCut {h₀ h : Heap} {L : Addr} {m : Str → Option Value} {news : List (Addr × Obj)} (_F : Fr h₀ L h m) (_N : News h₀ L h news) (y : Int) (ev : Bool) (s s2 : Shared) : Prop :=
  ∃ h' tk m' nw, s2 = { s with heap := h', toks := tk } ∧ Fr h₀ L h' m' ∧ News h₀ L h' nw ∧ KGood y ev m' ∧ m' (Str.ofString "numbers") = m (Str.ofString "numbers") ∧ ∀ p ∈ news, p ∈ nw
theorem kind_loop2 {prog : Program} {w : World} {A : Around} {E : Value → Shared → Prop} {h₀ : Heap} {env : Env} {target : Expr} {body : List Stmt} {Q : Flow → Shared → Prop} {s : Shared} {I : Addr} {keep news : List (Addr × Obj)} {y : Int} {ev : Bool} {vs : List Value} {m : Str → Option Value}
    (hI : ∀ p ∈ news, p.1 < I) (ks : List (Int × Tok)) (hk : SubL keep news) (hvs : vs = ks.map fun x => Value.int x.1 x.2) (hg : KGood y ev m) (hb : ∀ x ∈ ks, 0 ≤ x.1 ∧ x.1 ≤ 10)
    (turn : ∀ (nw : List (Addr × Obj)) (k : Int) (t : Tok) (h : Heap) (tk : Nat) (m : Str → Option Value) (Q' : Flow → Shared → Prop), 0 ≤ k → k ≤ 10 → Fr h₀ env.locals h m → News h₀ env.locals h nw → KGood y ev m →
      (∀ h' tk' m', Fr h₀ env.locals h' m' → News h₀ env.locals h' nw → KGood y ev m' → Q' .next { s with heap := h', toks := tk' }) →
      wpAny (model prog w) A (assign target env (.int k t)) (fun _ s₂ => wpAny (model prog w) A (execs body env) Q' E s₂) E { s with heap := h, toks := tk })
    (fin : ∀ h tk m', Fr h₀ env.locals h m' → News h₀ env.locals h news → KGood y ev m' → Q .next { s with heap := h, toks := tk }) :
      ItemsRest prog w A E h₀ env target body Q s [(I, "tuple_iterator")] keep (vs.map Itm.val) m news := by
  subst hvs
  rw [List.map_map]
  exact kind_loop hI hk turn ks m hg hb fin

theorem kb (a : Int) : 0 ≤ Int.fmod a 11 ∧ Int.fmod a 11 ≤ 10 := by rw [fm_nn _ (show (0 : Int) ≤ 11 by decide)]; omega
theorem kb2 {a b : Int} {t u : Tok} : ∀ x ∈ [(Int.fmod a 11, t), (Int.fmod b 11, u)], 0 ≤ x.1 ∧ x.1 ≤ 10 := by
  intro x hx
  rcases List.mem_cons.mp hx with rfl | hx
  · exact kb _
  · rw [List.mem_singleton.mp hx]; exact kb _
end JB
end
section
open PySem PySem.W PyProof.Rows PySem.Calls
namespace JB
/-- the law's reading: the day n of the Hebrew date (m, d) lies in the Gregorian year y -/
def Fnd (y m d n : Int) : Prop :=
  ((lfirst y ≤ lnum (y + 3760) m d ∧ lnum (y + 3760) m d < lfirst (y + 1)) ∧ n = lnum (y + 3760) m d) ∨
  ((¬ (lfirst y ≤ lnum (y + 3760) m d ∧ lnum (y + 3760) m d < lfirst (y + 1)) ∧ lfirst y ≤ lnum (y + 3761) m d ∧ lnum (y + 3761) m d < lfirst (y + 1)) ∧ n = lnum (y + 3761) m d)
def NFnd (y m d : Int) : Prop :=
  ¬ (lfirst y ≤ lnum (y + 3760) m d ∧ lnum (y + 3760) m d < lfirst (y + 1)) ∧ ¬ (lfirst y ≤ lnum (y + 3761) m d ∧ lnum (y + 3761) m d < lfirst (y + 1))
/-- the program's reading -/
def Gnd (y m d n : Int) : Prop :=
  (fy (hto (y + 3760) m d) = y ∧ n = hto (y + 3760) m d) ∨ ((fy (hto (y + 3760) m d) ≠ y ∧ fy (hto (y + 3760 + 1) m d) = y) ∧ n = hto (y + 3760 + 1) m d)
def NGnd (y m d : Int) : Prop := fy (hto (y + 3760) m d) ≠ y ∧ fy (hto (y + 3760 + 1) m d) ≠ y
theorem two_ways {y m d : Int} (h1 : 1 ≤ y) (h2 : y ≤ 9999) (hd : 1 ≤ d) (hm : (1 ≤ m ∧ m ≤ 12) ∨ (m = 13 ∧ d = 14 ∧ hleap (y + 3760) = true)) :
    (∃ n, Fnd y m d n ∧ Gnd y m d n) ∨ (NFnd y m d ∧ NGnd y m d) := by
  rcases hm with hm | ⟨rfl, rfl, hl⟩
  · rcases found_tri h1 hd hm with ⟨a1, a2, a3, a4⟩ | ⟨n1, a1, a2, n2, a3, a4⟩ | ⟨n1, n2, n3, n4⟩
    · exact .inl ⟨_, .inl ⟨⟨a1, a2⟩, rfl⟩, .inl ⟨a3, a4.symm⟩⟩
    · exact .inl ⟨_, .inr ⟨⟨n1, a1, a2⟩, rfl⟩, .inr ⟨⟨n2, a3⟩, a4.symm⟩⟩
    · exact .inr ⟨⟨n1, n2⟩, n3, n4⟩
  · obtain ⟨a1, a2, a3, a4⟩ := found_purim h1 h2 hl
    exact .inl ⟨_, .inl ⟨⟨a1, a2⟩, rfl⟩, .inl ⟨a3, a4.symm⟩⟩
def kmo (k : Int) : Int := if k = 0 then 9 else if k = 1 then 12 else if k = 2 then 7 else if k = 3 then 7 else if k = 4 then 1 else if k = 5 then 3 else if k = 6 then 7 else if k = 7 then 7 else if k = 8 then 2 else if k = 9 then 11 else 5
def kda (k : Int) : Int := if k = 0 then 25 else if k = 1 then 14 else if k = 2 then 1 else if k = 3 then 10 else if k = 4 then 15 else if k = 5 then 6 else if k = 6 then 15 else if k = 7 then 22 else if k = 8 then 18 else if k = 9 then 15 else 9
/-- the month of the kind's day in the year y: Purim in the last Adar -/
def kmon (k y : Int) : Int := if k = 1 ∧ hleap (y + 3760) = true then 13 else kmo k
/-- the day of the kind out of the found day n: the ninth of Av put off, the eve -/
def ksat (k n : Int) : Int := if k = 10 ∧ n % 7 = 5 then n + 1 else n
def kdue (k n : Int) (ev : Bool) : Int := if ev = true then ksat k n - 1 else ksat k n
theorem kdue_ne {k n : Int} {ev : Bool} (h : k ≠ 10) : kdue k n ev = if ev = true then n - 1 else n := by have e : ksat k n = n := (if_neg (fun q => h q.1)); unfold kdue; rw [e]
theorem kdue_10 {n : Int} {ev : Bool} : kdue 10 n ev = if ev = true then (if n % 7 = 5 then n + 1 else n) - 1 else (if n % 7 = 5 then n + 1 else n) := by unfold kdue ksat; simp only [true_and]
theorem kdue_a {k n : Int} {ev : Bool} (h : k = 10) (hn : n.fmod 7 = 5) (he : ev = true) : n + 1 - 1 = kdue k n ev := by
  subst h; subst he; rw [fm_nn _ (show (0 : Int) ≤ 7 by decide)] at hn; rw [kdue_10, if_pos rfl, if_pos hn]
theorem kdue_b {k n : Int} {ev : Bool} (h : k = 10) (hn : n.fmod 7 = 5) (he : ev = false) : n + 1 = kdue k n ev := by
  subst h; subst he; rw [fm_nn _ (show (0 : Int) ≤ 7 by decide)] at hn; rw [kdue_10, if_neg (by decide), if_pos hn]
theorem kdue_c {k n : Int} {ev : Bool} (h : k = 10) (hn : n.fmod 7 ≠ 5) (he : ev = true) : n - 1 = kdue k n ev := by
  subst h; subst he; rw [fm_nn _ (show (0 : Int) ≤ 7 by decide)] at hn; rw [kdue_10, if_pos rfl, if_neg hn]
theorem kdue_d {k n : Int} {ev : Bool} (h : k = 10) (hn : n.fmod 7 ≠ 5) (he : ev = false) : n = kdue k n ev := by
  subst h; subst he; rw [fm_nn _ (show (0 : Int) ≤ 7 by decide)] at hn; rw [kdue_10, if_neg (by decide), if_neg hn]
theorem kdue_e {k n : Int} {ev : Bool} (h : k ≠ 10) (he : ev = true) : n - 1 = kdue k n ev := by subst he; rw [kdue_ne h, if_pos rfl]
theorem kdue_f {k n : Int} {ev : Bool} (h : k ≠ 10) (he : ev = false) : n = kdue k n ev := by subst he; rw [kdue_ne h, if_neg (by decide)]
theorem kmon_ne {k y : Int} (h : k ≠ 1) : kmon k y = kmo k := by unfold kmon; rw [if_neg (fun q => h q.1)]
theorem kmon_1n {y : Int} (h : hleap (y + 3760) = false) : kmon 1 y = 12 := by unfold kmon; rw [h]; decide
theorem kmon_1l {y : Int} (h : hleap (y + 3760) = true) : kmon 1 y = 13 := by unfold kmon; rw [h]; decide
theorem k_cases {k : Int} (h0 : 0 ≤ k) (h1 : k ≤ 10) : k = 0 ∨ k = 1 ∨ k = 2 ∨ k = 3 ∨ k = 4 ∨ k = 5 ∨ k = 6 ∨ k = 7 ∨ k = 8 ∨ k = 9 ∨ k = 10 := by
  have f : ∀ n : Nat, n < 11 → ((n : Int) = 0 ∨ (n : Int) = 1 ∨ (n : Int) = 2 ∨ (n : Int) = 3 ∨ (n : Int) = 4 ∨ (n : Int) = 5 ∨ (n : Int) = 6 ∨ (n : Int) = 7 ∨ (n : Int) = 8 ∨ (n : Int) = 9 ∨ (n : Int) = 10) := by decide
  obtain ⟨n, hn, rfl⟩ := nat_of h0 (Int.lt_add_one_of_le h1)
  exact f n (Int.ofNat_lt.mp hn)
theorem kmo_fin : ∀ n : Nat, n < 11 → (1 ≤ kmo n ∧ kmo n ≤ 12) ∧ 1 ≤ kda n := by decide
theorem gnd_1n {y d n : Int} (h : Gnd y (kmon 1 y) d n) (hl : hleap (y + 3760) = false) : Gnd y 12 d n := by rw [kmon_1n hl] at h; exact h
theorem gnd_1l {y d n : Int} (h : Gnd y (kmon 1 y) d n) (hl : hleap (y + 3760) = true) : Gnd y 13 d n := by rw [kmon_1l hl] at h; exact h
theorem ngnd_1n {y d : Int} (h : NGnd y (kmon 1 y) d) (hl : hleap (y + 3760) = false) : NGnd y 12 d := by rw [kmon_1n hl] at h; exact h
theorem ngnd_1l {y d : Int} (h : NGnd y (kmon 1 y) d) (hl : hleap (y + 3760) = true) : NGnd y 13 d := by rw [kmon_1l hl] at h; exact h
theorem join_ev {ev : Bool} {r a b : Int} (h : ev = true ∧ r = a ∨ ev = false ∧ r = b) : r = if ev = true then a else b := by
  rcases h with ⟨rfl, rfl⟩ | ⟨rfl, rfl⟩ <;> rfl
theorem ne_true {b : Bool} (h : b = false) : ¬ b = true := by rw [h]; decide
theorem kdue_lt {k n i : Int} {ev : Bool} (h : k = i) (hi : i ≠ 10) : (if ev = true then n - 1 else n) = kdue k n ev := by subst h; exact (kdue_ne hi).symm
theorem kdue_last {k n : Int} {ev : Bool} (h : k = 10) : (if ev = true then (if n % 7 = 5 then n + 1 else n) - 1 else (if n % 7 = 5 then n + 1 else n)) = kdue k n ev := by subst h; exact kdue_10.symm
theorem k_10 {k : Int} (h : 0 ≤ k ∧ k ≤ 10) (n0 : k ≠ 0) (n1 : k ≠ 1) (n2 : k ≠ 2) (n3 : k ≠ 3) (n4 : k ≠ 4) (n5 : k ≠ 5) (n6 : k ≠ 6) (n7 : k ≠ 7) (n8 : k ≠ 8) (n9 : k ≠ 9) : k = 10 := by
  rcases k_cases h.1 h.2 with q | q | q | q | q | q | q | q | q | q | q
  case inr.inr.inr.inr.inr.inr.inr.inr.inr.inr => exact q
  all_goals exact absurd q (by assumption)
theorem gk_0 {k y n : Int} (h : Gnd y (kmon k y) (kda k) n) (e : k = 0) : Gnd y 9 25 n := by subst e; rw [kmon_ne (by decide)] at h; exact h
theorem nk_0 {k y : Int} (h : NGnd y (kmon k y) (kda k)) (e : k = 0) : NGnd y 9 25 := by subst e; rw [kmon_ne (by decide)] at h; exact h
theorem gk_1 {k y n : Int} (h : Gnd y (kmon k y) (kda k) n) (e : k = 1) : Gnd y (kmon 1 y) 14 n := by subst e; exact h
theorem nk_1 {k y : Int} (h : NGnd y (kmon k y) (kda k)) (e : k = 1) : NGnd y (kmon 1 y) 14 := by subst e; exact h
theorem gk_2 {k y n : Int} (h : Gnd y (kmon k y) (kda k) n) (e : k = 2) : Gnd y 7 1 n := by subst e; rw [kmon_ne (by decide)] at h; exact h
theorem nk_2 {k y : Int} (h : NGnd y (kmon k y) (kda k)) (e : k = 2) : NGnd y 7 1 := by subst e; rw [kmon_ne (by decide)] at h; exact h
theorem gk_3 {k y n : Int} (h : Gnd y (kmon k y) (kda k) n) (e : k = 3) : Gnd y 7 10 n := by subst e; rw [kmon_ne (by decide)] at h; exact h
theorem nk_3 {k y : Int} (h : NGnd y (kmon k y) (kda k)) (e : k = 3) : NGnd y 7 10 := by subst e; rw [kmon_ne (by decide)] at h; exact h
theorem gk_4 {k y n : Int} (h : Gnd y (kmon k y) (kda k) n) (e : k = 4) : Gnd y 1 15 n := by subst e; rw [kmon_ne (by decide)] at h; exact h
theorem nk_4 {k y : Int} (h : NGnd y (kmon k y) (kda k)) (e : k = 4) : NGnd y 1 15 := by subst e; rw [kmon_ne (by decide)] at h; exact h
theorem gk_5 {k y n : Int} (h : Gnd y (kmon k y) (kda k) n) (e : k = 5) : Gnd y 3 6 n := by subst e; rw [kmon_ne (by decide)] at h; exact h
theorem nk_5 {k y : Int} (h : NGnd y (kmon k y) (kda k)) (e : k = 5) : NGnd y 3 6 := by subst e; rw [kmon_ne (by decide)] at h; exact h
theorem gk_6 {k y n : Int} (h : Gnd y (kmon k y) (kda k) n) (e : k = 6) : Gnd y 7 15 n := by subst e; rw [kmon_ne (by decide)] at h; exact h
theorem nk_6 {k y : Int} (h : NGnd y (kmon k y) (kda k)) (e : k = 6) : NGnd y 7 15 := by subst e; rw [kmon_ne (by decide)] at h; exact h
theorem gk_7 {k y n : Int} (h : Gnd y (kmon k y) (kda k) n) (e : k = 7) : Gnd y 7 22 n := by subst e; rw [kmon_ne (by decide)] at h; exact h
theorem nk_7 {k y : Int} (h : NGnd y (kmon k y) (kda k)) (e : k = 7) : NGnd y 7 22 := by subst e; rw [kmon_ne (by decide)] at h; exact h
theorem gk_8 {k y n : Int} (h : Gnd y (kmon k y) (kda k) n) (e : k = 8) : Gnd y 2 18 n := by subst e; rw [kmon_ne (by decide)] at h; exact h
theorem nk_8 {k y : Int} (h : NGnd y (kmon k y) (kda k)) (e : k = 8) : NGnd y 2 18 := by subst e; rw [kmon_ne (by decide)] at h; exact h
theorem gk_9 {k y n : Int} (h : Gnd y (kmon k y) (kda k) n) (e : k = 9) : Gnd y 11 15 n := by subst e; rw [kmon_ne (by decide)] at h; exact h
theorem nk_9 {k y : Int} (h : NGnd y (kmon k y) (kda k)) (e : k = 9) : NGnd y 11 15 := by subst e; rw [kmon_ne (by decide)] at h; exact h
theorem gk_10 {k y n : Int} (h : Gnd y (kmon k y) (kda k) n) (e : k = 10) : Gnd y 5 9 n := by subst e; rw [kmon_ne (by decide)] at h; exact h
theorem nk_10 {k y : Int} (h : NGnd y (kmon k y) (kda k)) (e : k = 10) : NGnd y 5 9 := by subst e; rw [kmon_ne (by decide)] at h; exact h
theorem kmon_ok {k y : Int} (h0 : 0 ≤ k) (h1 : k ≤ 10) : ((1 ≤ kmon k y ∧ kmon k y ≤ 12) ∨ (kmon k y = 13 ∧ kda k = 14 ∧ hleap (y + 3760) = true)) ∧ 1 ≤ kda k := by
  obtain ⟨n, hn, rfl⟩ := nat_of h0 (Int.lt_add_one_of_le h1)
  have f := kmo_fin n (Int.ofNat_lt.mp hn)
  refine ⟨?_, f.2⟩
  unfold kmon
  split
  · rename_i q
    exact .inr ⟨rfl, by rw [q.1]; rfl, q.2⟩
  · exact .inl f.1
theorem kind_ways {k y : Int} (h0 : 0 ≤ k) (h1 : k ≤ 10) (hy : 1 ≤ y) (hy' : y ≤ 9999) :
    (∃ n, Fnd y (kmon k y) (kda k) n ∧ Gnd y (kmon k y) (kda k) n) ∨ (NFnd y (kmon k y) (kda k) ∧ NGnd y (kmon k y) (kda k)) :=
  two_ways hy hy' (kmon_ok (y := y) h0 h1).2 (kmon_ok (y := y) h0 h1).1
theorem kmon_a {k y : Int} (h : k = 1) (h2 : llong (y + 3760) = true) : (13 : Int) = kmon k y := by subst h; rw [llong_eq] at h2; exact (kmon_1l h2).symm
theorem kmon_b {k y : Int} (h : k = 1) (h2 : llong (y + 3760) = false) : kmo k = kmon k y := by subst h; rw [llong_eq] at h2; exact (kmon_1n h2).symm
theorem kmon_c {k y : Int} (h : k ≠ 1) : kmo k = kmon k y := (kmon_ne h).symm
theorem ne_tup3_same {prog : Program} {w : World} {A : Around} {E : Value → Shared → Prop} {s : Shared} {D D' : Addr} {a b c : Int} {t1 t2 t3 u1 u2 u3 : Tok} {k k' : Nat} {Q : Value → Shared → Prop} {news : List (Addr × Obj)} {h₀ : Heap} {L : Addr}
    (N : News h₀ L s.heap news) (ha : (D, tup3 a b c t1 t2 t3 k) ∈ news) (hb : (D', tup3 a b c u1 u2 u3 k') ∈ news) (hu : A.units + 64 < cLine) (h : Q (.bool false) s) :
    wpAny (model prog w) A (compareOp .NotEq (.ref D) (.ref D')) Q E s := by
  refine ne_dataH (reads_tuple_at (News.get N ha) rfl rfl (.cons (.int _ _) (.cons (.int _ _) (.cons (.int _ _) .nil)))) (reads_tuple_at (News.get N hb) rfl rfl (.cons (.int _ _) (.cons (.int _ _) (.cons (.int _ _) .nil)))) rfl rfl hu ?_
  simp only [PyData.eqv, PyData.eqvAll, beq_self_eq_true, Bool.and_true, Bool.true_and, Bool.not_true, decide_true]
  exact h
theorem ve1 : Str.ofString "ValueError" ∉ startupNames := by decide +kernel
theorem ve2 : Str.ofString "ValueError" ∉ LS := by decide +kernel
theorem ve3 : Str.ofString "ValueError" ∉ (recsOf vw).map (·.name) := by decide +kernel
theorem ve4 : Str.ofString "ValueError" ∉ (litsOf vw).map (·.1) := by decide +kernel
theorem ve5 : Str.ofString "ValueError" ∉ (clssOf vw LS).map (·.name) := by decide +kernel
def DayOf (a b : Int) (T : Addr) (news : List (Addr × Obj)) : Prop := ∃ ta tb c, (T, tup2 a b ta tb c) ∈ news
theorem days_at {prog : Program} {w : World} {A : Around} {E : Value → Shared → Prop} {s : Shared} {value slice : Expr} {l : Addr} {T0 T1 T2 T3 T4 T5 T6 T7 T8 T9 T10 : Addr} {k : Int} {u : Tok} {Q : Value → Shared → Prop} {news : List (Addr × Obj)} {h₀ : Heap} {L : Addr} {m : Str → Option Value} (_F : Fr h₀ L s.heap m) (N : News h₀ L s.heap news)
    (hl : s.heap.IsList l #[.ref T0, .ref T1, .ref T2, .ref T3, .ref T4, .ref T5, .ref T6, .ref T7, .ref T8, .ref T9, .ref T10]) (h0 : 0 ≤ k) (h1 : k ≤ 10)
    (hT : DayOf 9 25 T0 news ∧ DayOf 12 14 T1 news ∧ DayOf 7 1 T2 news ∧ DayOf 7 10 T3 news ∧ DayOf 1 15 T4 news ∧ DayOf 3 6 T5 news ∧ DayOf 7 15 T6 news ∧ DayOf 7 22 T7 news ∧ DayOf 2 18 T8 news ∧ DayOf 11 15 T9 news ∧ DayOf 5 9 T10 news)
    (h' : ∀ T ta tb, IsTup s.heap T #[.int (kmo k) ta, .int (kda k) tb] → Q (.ref T) s)
    (hs : subscripted slice false (.ref l) (.int k u) = operate [.ref l, .int k u] (getItem (.ref l) (.int k u)) := by with_unfolding_all rfl) :
    wpAny (model prog w) A (subscriptTail value slice (.ref l) (.int k u)) Q E s := by
  have h : ∀ T, DayOf (kmo k) (kda k) T news → Q (.ref T) s := fun T ⟨ta, tb, c, hm⟩ => h' T ta tb ⟨_, (N _ hm).1, rfl, _, rfl⟩
  obtain ⟨d0, d1, d2, d3, d4, d5, d6, d7, d8, d9, d10⟩ := hT
  rcases k_cases h0 h1 with rfl | rfl | rfl | rfl | rfl | rfl | rfl | rfl | rfl | rfl | rfl
  · exact item_listR hl h0 (by decide) rfl (h T0 d0) hs
  · exact item_listR hl h0 (by decide) rfl (h T1 d1) hs
  · exact item_listR hl h0 (by decide) rfl (h T2 d2) hs
  · exact item_listR hl h0 (by decide) rfl (h T3 d3) hs
  · exact item_listR hl h0 (by decide) rfl (h T4 d4) hs
  · exact item_listR hl h0 (by decide) rfl (h T5 d5) hs
  · exact item_listR hl h0 (by decide) rfl (h T6 d6) hs
  · exact item_listR hl h0 (by decide) rfl (h T7 d7) hs
  · exact item_listR hl h0 (by decide) rfl (h T8 d8) hs
  · exact item_listR hl h0 (by decide) rfl (h T9 d9) hs
  · exact item_listR hl h0 (by decide) rfl (h T10 d10) hs
/-- a contract of a call that raises ValueError -/
abbrev JClE (w : World) (f : Addr) (vs : List Value) (n : Nat) (pre : Prop) : Prop :=
  ∀ {mean : ExcName → Option Value} {mg mb : Str → Option Value} {dp un : Nat} {gd : Option (List Code)} {cn : Str} {cs : Scope} {a : Addr} {ccd : Value} {cl : List (Str × Addr)} {outer : List Env} {A₀ : Around} {base h₀ : Heap} {L : Addr} {m : Str → Option Value} {s : Shared} {Q E : Value → Shared → Prop} {news : List (Addr × Obj)},
    Below A₀ base outer h₀ → Fr h₀ L s.heap m → (hd.heap_39 w.params).In h₀ → News h₀ L s.heap news → Top vw LS mean mg mb h₀ → cs.kind = .function → pre → dp + n < recursionLimit → un + 8 * n < cLine →
    (∀ (e t : Addr) (xs : List Value) (g h' : Heap) (tk' : Nat), Fr h₀ L g m → g.UpToSlots h' → RaisedK base (envX cn cs L a ccd cl :: outer) e (.type "ValueError") t xs news h' → E (.ref e) { s with heap := h', toks := tk' }) →
    wpAny (model PySem.Challenge.rw_jb0013_01.row.prog w) (ktrTop dp un gd cn cs L a ccd cl outer) (call (.ref f) vs) Q E s
theorem raised_sub {base h : Heap} {l : List Env} {e t : Addr} {c : Value} {xs : List Value} {nw news : List (Addr × Obj)} (R : RaisedK base l e c t xs nw h) (hs : ∀ p ∈ news, p ∈ nw) : RaisedK base l e c t xs news h :=
  ⟨R.1.elim fun B r => ⟨B, r.1, fun q hq => r.2.1 q (hs q hq), r.2.2⟩, R.2⟩
end JB
end
section
open PySem PySem.W PyProof.Rows
namespace JB
local macro_rules | `(tactic| walk_at $s:str) => `(tactic| k_extra $s)
local macro_rules | `(tactic| k_all) => `(tactic| (refine' JB.all_ne ?ja ?jb; (case ja => with_reducible assumption); (case jb => ((try dsimp only); first | omega | exact Nat.le_succ _ | exact Nat.le_refl _))))
local macro_rules | `(tactic| k_room) => `(tactic| ktr_room)
set_option maxRecDepth 100000 in
set_option maxHeartbeats 8000000 in
theorem C_isleap (w : World) (y : Int) (t_y : Tok) : JCl w 21 [.int y t_y] 1 (True) (RVal fun _ => .bool (isleap y)) := by
  k_with_none
  w_top off
  k_with "eval Name" => (k_here; (with_reducible show wpAny _ _ (eval (Expr.Name _ _) (envOf _ _ _ _ _)) _ _ _); (with_reducible rename Fr _ _ _ _ => kF); k_dflt (refine' name_K kF ?J1k1 ?J1k2 ?J1k3 ?_; (case J1k1 => k_asm); (case J1k2 => k_asm); (case J1k3 => k_is); k_whole))
  k_with "storeName" => (k_here; (with_reducible show wpAny _ _ (storeName _ _ (Value.int _ _)) _ _ _); k_dflt (refine' JB.store_int ?J2F ?J2N ?_ ?J2a ?J2b; (case J2F => k_asm); (case J2N => k_asm); (case J2a => rfl); (case J2b => rfl); k_whole; intro t h' F' N'; (try k_sweep)))
  k_with "eval Call" => (k_here; (with_reducible show wpAny _ _ (eval (Expr.Call (Expr.Name _ _) _ [] _) _) _ _ _); refine PyProof.Rows.Call_ ?_)
  k_with "call builtin:divmod" => (k_here; k_dflt (refine' JB.divmod_J ?J4k1 ?J4k2 ?J4k3 ?J4k4 ?_; (case J4k1 => k_asm); (case J4k2 => k_asm); (case J4k3 => decide); (case J4k4 => exact PyProof.noPylong_of_log2 (by decide +kernel)); intro D' h' F' N' l1; (try k_lt l1)))
  k_with "execs cons" => (k_here; (with_reducible show wpAny _ _ _ _ _ (Shared.mk _ _ _ (_ + 1 + 1 + 1) _)); (with_reducible refine JB.gen_toks ?_); intro tk)
  k_with "execs nil" => (k_here; (with_reducible show wpAny _ _ _ _ _ (Shared.mk _ _ _ (_ + 1 + 1 + 1) _)); (with_reducible refine JB.gen_toks ?_); intro tk)
  dsimp only [JCl, RVal, RTup]
  k_fill
  intros
  rename_i hpre hroom hunits hret
  refine wpAny_call ?_
  k_dflt cell_enter
  k_steps
  skip
  all_goals ((rename PyProof.Rows.Fr _ _ _ _ => jF); (rename PyProof.Rows.News _ _ _ _ => jN); refine cb_retB hret ?_ jF (by first | exact jN | exact cb_drop jN (by intro p hp; repeat (first | exact hp | apply List.mem_cons_of_mem))))
  all_goals (law_clear; (first | (apply Bool.eq_iff_iff.mpr; simp only [isleap, decide_eq_true_eq, beq_iff_eq, bne_iff_ne, ne_eq, beq_eq_false_iff_ne, bne_eq_false_iff_eq, decide_eq_false_iff_not, Bool.not_eq_true, fm_nn _ (show (0:Int) ≤ 4 by decide), fm_nn _ (show (0:Int) ≤ 7 by decide), fm_nn _ (show (0:Int) ≤ 10 by decide), fm_nn _ (show (0:Int) ≤ 19 by decide), fm_nn _ (show (0:Int) ≤ 100 by decide), fm_nn _ (show (0:Int) ≤ 400 by decide), fm_nn _ (show (0:Int) ≤ 25920 by decide)]; done) | (apply Bool.eq_iff_iff.mpr; simp only [isleap, decide_eq_true_eq, beq_iff_eq, bne_iff_ne, ne_eq, beq_eq_false_iff_ne, bne_eq_false_iff_eq, decide_eq_false_iff_not, Bool.not_eq_true, fm_nn _ (show (0:Int) ≤ 4 by decide), fm_nn _ (show (0:Int) ≤ 7 by decide), fm_nn _ (show (0:Int) ≤ 10 by decide), fm_nn _ (show (0:Int) ≤ 19 by decide), fm_nn _ (show (0:Int) ≤ 100 by decide), fm_nn _ (show (0:Int) ≤ 400 by decide), fm_nn _ (show (0:Int) ≤ 25920 by decide)] at *; omega)))
set_option maxRecDepth 100000 in
set_option maxHeartbeats 8000000 in
theorem C_midnight (w : World) (j : Int) (t_j : Tok) : JCl w 28 [.int j t_j] 1 (True) (RVal fun t => .int (mid j) t) := by
  k_with_none
  w_top off
  k_with "eval Name" => (k_here; (with_reducible show wpAny _ _ (eval (Expr.Name _ _) (envOf _ _ _ _ _)) _ _ _); (with_reducible rename Fr _ _ _ _ => kF); k_dflt (refine' name_K kF ?J1k1 ?J1k2 ?J1k3 ?_; (case J1k1 => k_asm); (case J1k2 => k_asm); (case J1k3 => k_is); k_whole))
  k_with "storeName" => (k_here; (with_reducible show wpAny _ _ (storeName _ _ (Value.int _ _)) _ _ _); k_dflt (refine' JB.store_int ?J2F ?J2N ?_ ?J2a ?J2b; (case J2F => k_asm); (case J2N => k_asm); (case J2a => rfl); (case J2b => rfl); k_whole; intro t h' F' N'; (try k_sweep)))
  k_with "eval Call" => (k_here; (with_reducible show wpAny _ _ (eval (Expr.Call (Expr.Name _ _) _ [] _) _) _ _ _); refine PyProof.Rows.Call_ ?_)
  k_with "call builtin:divmod" => (k_here; k_dflt (refine' JB.divmod_J ?J4k1 ?J4k2 ?J4k3 ?J4k4 ?_; (case J4k1 => k_asm); (case J4k2 => k_asm); (case J4k3 => decide); (case J4k4 => exact PyProof.noPylong_of_log2 (by decide +kernel)); intro D' h' F' N' l1; (try k_lt l1)))
  k_with "execs cons" => (k_here; (with_reducible show wpAny _ _ _ _ _ (Shared.mk _ _ _ (_ + 1 + 1 + 1) _)); (with_reducible refine JB.gen_toks ?_); intro tk)
  k_with "execs nil" => (k_here; (with_reducible show wpAny _ _ _ _ _ (Shared.mk _ _ _ (_ + 1 + 1 + 1) _)); (with_reducible refine JB.gen_toks ?_); intro tk)
  dsimp only [JCl, RVal, RTup]
  k_fill
  intros
  rename_i hpre hroom hunits hret
  refine wpAny_call ?_
  k_dflt cell_enter
  k_steps
  skip
  all_goals ((rename PyProof.Rows.Fr _ _ _ _ => jF); (rename PyProof.Rows.News _ _ _ _ => jN); refine cb_retI hret ?_ jF (by first | exact jN | exact cb_drop jN (by intro p hp; repeat (first | exact hp | apply List.mem_cons_of_mem))))
  all_goals (law_clear; (((try simp only [mid, fm_nn _ (show (0:Int) ≤ 4 by decide), fm_nn _ (show (0:Int) ≤ 7 by decide), fm_nn _ (show (0:Int) ≤ 10 by decide), fm_nn _ (show (0:Int) ≤ 19 by decide), fm_nn _ (show (0:Int) ≤ 100 by decide), fm_nn _ (show (0:Int) ≤ 400 by decide), fm_nn _ (show (0:Int) ≤ 25920 by decide), fd_nn _ (show (0:Int) ≤ 4 by decide), fd_nn _ (show (0:Int) ≤ 12 by decide), fd_nn _ (show (0:Int) ≤ 19 by decide), fd_nn _ (show (0:Int) ≤ 100 by decide), fd_nn _ (show (0:Int) ≤ 400 by decide), fd_nn _ (show (0:Int) ≤ 25920 by decide), fd_nn _ (show (0:Int) ≤ 367 by decide), fd_nn _ (show (0:Int) ≤ 1461 by decide), fd_nn _ (show (0:Int) ≤ 146097 by decide), fd_nn _ (show (0:Int) ≤ 36524 by decide), fd_nn _ (show (0:Int) ≤ 365 by decide)] at *) <;> (repeat' split) <;> first | omega | (exfalso; simp_all; done))))
set_option maxRecDepth 100000 in
set_option maxHeartbeats 8000000 in
theorem C_jwday (w : World) (j : Int) (t_j : Tok) : JCl w 35 [.int j t_j] 1 (True) (RVal fun t => .int (j % 7) t) := by
  k_with_none
  w_top off
  k_with "eval Name" => (k_here; (with_reducible show wpAny _ _ (eval (Expr.Name _ _) (envOf _ _ _ _ _)) _ _ _); (with_reducible rename Fr _ _ _ _ => kF); k_dflt (refine' name_K kF ?J1k1 ?J1k2 ?J1k3 ?_; (case J1k1 => k_asm); (case J1k2 => k_asm); (case J1k3 => k_is); k_whole))
  k_with "storeName" => (k_here; (with_reducible show wpAny _ _ (storeName _ _ (Value.int _ _)) _ _ _); k_dflt (refine' JB.store_int ?J2F ?J2N ?_ ?J2a ?J2b; (case J2F => k_asm); (case J2N => k_asm); (case J2a => rfl); (case J2b => rfl); k_whole; intro t h' F' N'; (try k_sweep)))
  k_with "eval Call" => (k_here; (with_reducible show wpAny _ _ (eval (Expr.Call (Expr.Name _ _) _ [] _) _) _ _ _); refine PyProof.Rows.Call_ ?_)
  k_with "call builtin:divmod" => (k_here; k_dflt (refine' JB.divmod_J ?J4k1 ?J4k2 ?J4k3 ?J4k4 ?_; (case J4k1 => k_asm); (case J4k2 => k_asm); (case J4k3 => decide); (case J4k4 => exact PyProof.noPylong_of_log2 (by decide +kernel)); intro D' h' F' N' l1; (try k_lt l1)))
  k_with "execs cons" => (k_here; (with_reducible show wpAny _ _ _ _ _ (Shared.mk _ _ _ (_ + 1 + 1 + 1) _)); (with_reducible refine JB.gen_toks ?_); intro tk)
  k_with "execs nil" => (k_here; (with_reducible show wpAny _ _ _ _ _ (Shared.mk _ _ _ (_ + 1 + 1 + 1) _)); (with_reducible refine JB.gen_toks ?_); intro tk)
  dsimp only [JCl, RVal, RTup]
  k_fill
  intros
  rename_i hpre hroom hunits hret
  refine wpAny_call ?_
  k_dflt cell_enter
  k_steps
  skip
  all_goals ((rename PyProof.Rows.Fr _ _ _ _ => jF); (rename PyProof.Rows.News _ _ _ _ => jN); refine cb_retI hret ?_ jF (by first | exact jN | exact cb_drop jN (by intro p hp; repeat (first | exact hp | apply List.mem_cons_of_mem))))
  all_goals (law_clear; (((try simp only [mid, fm_nn _ (show (0:Int) ≤ 4 by decide), fm_nn _ (show (0:Int) ≤ 7 by decide), fm_nn _ (show (0:Int) ≤ 10 by decide), fm_nn _ (show (0:Int) ≤ 19 by decide), fm_nn _ (show (0:Int) ≤ 100 by decide), fm_nn _ (show (0:Int) ≤ 400 by decide), fm_nn _ (show (0:Int) ≤ 25920 by decide), fd_nn _ (show (0:Int) ≤ 4 by decide), fd_nn _ (show (0:Int) ≤ 12 by decide), fd_nn _ (show (0:Int) ≤ 19 by decide), fd_nn _ (show (0:Int) ≤ 100 by decide), fd_nn _ (show (0:Int) ≤ 400 by decide), fd_nn _ (show (0:Int) ≤ 25920 by decide), fd_nn _ (show (0:Int) ≤ 367 by decide), fd_nn _ (show (0:Int) ≤ 1461 by decide), fd_nn _ (show (0:Int) ≤ 146097 by decide), fd_nn _ (show (0:Int) ≤ 36524 by decide), fd_nn _ (show (0:Int) ≤ 365 by decide)] at *) <;> (repeat' split) <;> first | omega | (exfalso; simp_all; done))))
set_option maxRecDepth 100000 in
set_option maxHeartbeats 8000000 in
theorem C_legal_date (w : World) (y : Int) (t_y : Tok) (m : Int) (t_m : Tok) (d : Int) (t_d : Tok) : JCl w 43 [.int y t_y, .int m t_m, .int d t_d] 2 (0 < d ∧ d ≤ gdim y m) (RVal fun _ => .bool (true)) := by
  k_with_none
  w_top off
  k_with "eval Name" => (k_here; (with_reducible show wpAny _ _ (eval (Expr.Name _ _) (envOf _ _ _ _ _)) _ _ _); (with_reducible rename Fr _ _ _ _ => kF); k_dflt (refine' name_K kF ?J1k1 ?J1k2 ?J1k3 ?_; (case J1k1 => k_asm); (case J1k2 => k_asm); (case J1k3 => k_is); k_whole))
  k_with "storeName" => (k_here; (with_reducible show wpAny _ _ (storeName _ _ (Value.int _ _)) _ _ _); k_dflt (refine' JB.store_int ?J2F ?J2N ?_ ?J2a ?J2b; (case J2F => k_asm); (case J2N => k_asm); (case J2a => rfl); (case J2b => rfl); k_whole; intro t h' F' N'; (try k_sweep)))
  k_with "eval Call" => (k_here; (with_reducible show wpAny _ _ (eval (Expr.Call (Expr.Name _ _) _ [] _) _) _ _ _); refine PyProof.Rows.Call_ ?_)
  k_with "call builtin:divmod" => (k_here; k_dflt (refine' JB.divmod_J ?J4k1 ?J4k2 ?J4k3 ?J4k4 ?_; (case J4k1 => k_asm); (case J4k2 => k_asm); (case J4k3 => decide); (case J4k4 => exact PyProof.noPylong_of_log2 (by decide +kernel)); intro D' h' F' N' l1; (try k_lt l1)))
  k_with "execs cons" => (k_here; (with_reducible show wpAny _ _ _ _ _ (Shared.mk _ _ _ (_ + 1 + 1 + 1) _)); (with_reducible refine JB.gen_toks ?_); intro tk)
  k_with "execs nil" => (k_here; (with_reducible show wpAny _ _ _ _ _ (Shared.mk _ _ _ (_ + 1 + 1 + 1) _)); (with_reducible refine JB.gen_toks ?_); intro tk)
  k_with "call ref" => (k_here; (with_reducible show wpAny _ _ (call (Value.ref 21) _) _ _ _); k_dflt (refine' JB.C_isleap _ _ _ ?J7k1 ?J7k2 ?J7k3 ?J7k4 ?J7k5 ?J7kK ?J7kp ?J7kd ?J7ku ?_; (case J7k1 => first | k_asm | ktn_no "jb: the frames below"); (case J7k2 => first | k_asm | ktn_no "jb: the frame"); (case J7k3 => first | k_asm | ktn_no "jb: the written part"); (case J7k4 => first | k_asm | ktn_no "jb: the ledger"); (case J7k5 => first | k_asm | ktn_no "jb: the top's facts"); (case J7kK => first | exact rfl | assumption | ktn_no "jb: the caller is no def"); (case J7kd => first | ktr_room | ktn_no "jb: the frames' room"); (case J7ku => first | ktr_units | ktn_no "jb: the C units"); (case J7kp => first | (fail) | trivial | ((try dsimp only); first | with_reducible assumption | omega) | ktn_no "jb: what the claim asks"); intro t9 h9 tk9 F9 N9; (try dsimp only); (try k_fold)); walk_say "CONTRACT isleap")
  k_with "jb any" => first | exact rfl | assumption | (simp only [List.any_cons, List.any_nil, Bool.or_eq_false_iff, beq_eq_false_iff_ne, ne_eq, and_true]; omega)
  k_with "compareOp In int ref" => (k_here; k_dflt (first   | (refine' JB.in_tup_b true (JB.isTup_K ?J9X ?J9e) ?J9hi ?J9hb ?_; (case J9X => k_in); (case J9e => k_is); (case J9hi => repeat constructor); (case J9hb => walk_at "jb any"))   | (refine' JB.in_tup_b false (JB.isTup_K ?J9X ?J9e) ?J9hi ?J9hb ?_; (case J9X => k_in); (case J9e => k_is); (case J9hi => repeat constructor); (case J9hb => walk_at "jb any"))))
  k_with "ite" => (k_here; k_openite; first | (refine ite_neg (by (law_clear; (try simp only [decide_eq_true_eq, beq_iff_eq]); omega)) ?_; walk_say "PRUNED BY OMEGA") | (refine ite_pos (by (law_clear; (try simp only [decide_eq_true_eq, beq_iff_eq]); omega)) ?_; walk_say "PRUNED BY OMEGA"))
  dsimp only [JCl, RVal, RTup]
  k_fill
  intros
  rename_i hpre hroom hunits hret
  obtain ⟨hd0, hd1⟩ := hpre
  rcases gdim_ways hd1 with ⟨rfl, hl, hd2⟩ | ⟨rfl, hl, hd2⟩ | ⟨n1, hb, hd2⟩ | ⟨n1, hb, hd2⟩
  all_goals clear hd1
  all_goals (
  refine wpAny_call ?_
  k_dflt cell_enter
  k_steps)
  skip
  all_goals ((rename PyProof.Rows.Fr _ _ _ _ => jF); (rename PyProof.Rows.News _ _ _ _ => jN); refine cb_retB hret ?_ jF (by first | exact jN | exact cb_drop jN (by intro p hp; repeat (first | exact hp | apply List.mem_cons_of_mem))))
  all_goals (law_clear; (rfl))
set_option maxRecDepth 100000 in
set_option maxHeartbeats 8000000 in
theorem C_to_jd_gregorian (w : World) (y : Int) (t_y : Tok) (m : Int) (t_m : Tok) (d : Int) (t_d : Tok) : JCl w 50 [.int y t_y, .int m t_m, .int d t_d] 3 (0 < d ∧ d ≤ gdim y m) (RVal fun t => .int (gto y m d) t) := by
  k_with_none
  w_top off
  k_with "eval Name" => (k_here; (with_reducible show wpAny _ _ (eval (Expr.Name _ _) (envOf _ _ _ _ _)) _ _ _); (with_reducible rename Fr _ _ _ _ => kF); k_dflt (refine' name_K kF ?J1k1 ?J1k2 ?J1k3 ?_; (case J1k1 => k_asm); (case J1k2 => k_asm); (case J1k3 => k_is); k_whole))
  k_with "storeName" => (k_here; (with_reducible show wpAny _ _ (storeName _ _ (Value.int _ _)) _ _ _); k_dflt (refine' JB.store_int ?J2F ?J2N ?_ ?J2a ?J2b; (case J2F => k_asm); (case J2N => k_asm); (case J2a => rfl); (case J2b => rfl); k_whole; intro t h' F' N'; (try k_sweep)))
  k_with "eval Call" => (k_here; (with_reducible show wpAny _ _ (eval (Expr.Call (Expr.Name _ _) _ [] _) _) _ _ _); refine PyProof.Rows.Call_ ?_)
  k_with "call builtin:divmod" => (k_here; k_dflt (refine' JB.divmod_J ?J4k1 ?J4k2 ?J4k3 ?J4k4 ?_; (case J4k1 => k_asm); (case J4k2 => k_asm); (case J4k3 => decide); (case J4k4 => exact PyProof.noPylong_of_log2 (by decide +kernel)); intro D' h' F' N' l1; (try k_lt l1)))
  k_with "execs cons" => (k_here; (with_reducible show wpAny _ _ _ _ _ (Shared.mk _ _ _ (_ + 1 + 1 + 1) _)); (with_reducible refine JB.gen_toks ?_); intro tk)
  k_with "execs nil" => (k_here; (with_reducible show wpAny _ _ _ _ _ (Shared.mk _ _ _ (_ + 1 + 1 + 1) _)); (with_reducible refine JB.gen_toks ?_); intro tk)
  k_with "call ref" => (k_here; (with_reducible show wpAny _ _ (call (Value.ref 21) _) _ _ _); k_dflt (refine' JB.C_isleap _ _ _ ?J7k1 ?J7k2 ?J7k3 ?J7k4 ?J7k5 ?J7kK ?J7kp ?J7kd ?J7ku ?_; (case J7k1 => first | k_asm | ktn_no "jb: the frames below"); (case J7k2 => first | k_asm | ktn_no "jb: the frame"); (case J7k3 => first | k_asm | ktn_no "jb: the written part"); (case J7k4 => first | k_asm | ktn_no "jb: the ledger"); (case J7k5 => first | k_asm | ktn_no "jb: the top's facts"); (case J7kK => first | exact rfl | assumption | ktn_no "jb: the caller is no def"); (case J7kd => first | ktr_room | ktn_no "jb: the frames' room"); (case J7ku => first | ktr_units | ktn_no "jb: the C units"); (case J7kp => first | (fail) | trivial | ((try dsimp only); first | with_reducible assumption | omega) | ktn_no "jb: what the claim asks"); intro t9 h9 tk9 F9 N9; (try dsimp only); (try k_fold)); walk_say "CONTRACT isleap")
  k_with "call ref" => (k_here; (with_reducible show wpAny _ _ (call (Value.ref 43) _) _ _ _); k_dflt (refine' JB.C_legal_date _ _ _ _ _ _ _ ?J8k1 ?J8k2 ?J8k3 ?J8k4 ?J8k5 ?J8kK ?J8kp ?J8kd ?J8ku ?_; (case J8k1 => first | k_asm | ktn_no "jb: the frames below"); (case J8k2 => first | k_asm | ktn_no "jb: the frame"); (case J8k3 => first | k_asm | ktn_no "jb: the written part"); (case J8k4 => first | k_asm | ktn_no "jb: the ledger"); (case J8k5 => first | k_asm | ktn_no "jb: the top's facts"); (case J8kK => first | exact rfl | assumption | ktn_no "jb: the caller is no def"); (case J8kd => first | ktr_room | ktn_no "jb: the frames' room"); (case J8ku => first | ktr_units | ktn_no "jb: the C units"); (case J8kp => first | (fail) | trivial | ((try dsimp only); first | with_reducible assumption | omega) | ktn_no "jb: what the claim asks"); intro t9 h9 tk9 F9 N9; (try dsimp only); (try k_fold)); walk_say "CONTRACT legal_date")
  dsimp only [JCl, RVal, RTup]
  k_fill
  intros
  rename_i hpre hroom hunits hret
  refine wpAny_call ?_
  k_dflt cell_enter
  k_steps
  skip
  all_goals ((rename PyProof.Rows.Fr _ _ _ _ => jF); (rename PyProof.Rows.News _ _ _ _ => jN); refine cb_retI hret ?_ jF (by first | exact jN | exact cb_drop jN (by intro p hp; repeat (first | exact hp | apply List.mem_cons_of_mem))))
  all_goals (law_clear; (((try simp only [gto, gadj, fm_nn _ (show (0:Int) ≤ 4 by decide), fm_nn _ (show (0:Int) ≤ 7 by decide), fm_nn _ (show (0:Int) ≤ 10 by decide), fm_nn _ (show (0:Int) ≤ 19 by decide), fm_nn _ (show (0:Int) ≤ 100 by decide), fm_nn _ (show (0:Int) ≤ 400 by decide), fm_nn _ (show (0:Int) ≤ 25920 by decide), fd_nn _ (show (0:Int) ≤ 4 by decide), fd_nn _ (show (0:Int) ≤ 12 by decide), fd_nn _ (show (0:Int) ≤ 19 by decide), fd_nn _ (show (0:Int) ≤ 100 by decide), fd_nn _ (show (0:Int) ≤ 400 by decide), fd_nn _ (show (0:Int) ≤ 25920 by decide), fd_nn _ (show (0:Int) ≤ 367 by decide), fd_nn _ (show (0:Int) ≤ 1461 by decide), fd_nn _ (show (0:Int) ≤ 146097 by decide), fd_nn _ (show (0:Int) ≤ 36524 by decide), fd_nn _ (show (0:Int) ≤ 365 by decide)] at *) <;> (repeat' split) <;> first | omega | (exfalso; simp_all; done))))
set_option maxRecDepth 100000 in
set_option maxHeartbeats 8000000 in
theorem C_leap (w : World) (y : Int) (t_y : Tok) : JCl w 64 [.int y t_y] 1 (True) (RVal fun _ => .bool (hleap y)) := by
  k_with_none
  w_top off
  k_with "eval Name" => (k_here; (with_reducible show wpAny _ _ (eval (Expr.Name _ _) (envOf _ _ _ _ _)) _ _ _); (with_reducible rename Fr _ _ _ _ => kF); k_dflt (refine' name_K kF ?J1k1 ?J1k2 ?J1k3 ?_; (case J1k1 => k_asm); (case J1k2 => k_asm); (case J1k3 => k_is); k_whole))
  k_with "storeName" => (k_here; (with_reducible show wpAny _ _ (storeName _ _ (Value.int _ _)) _ _ _); k_dflt (refine' JB.store_int ?J2F ?J2N ?_ ?J2a ?J2b; (case J2F => k_asm); (case J2N => k_asm); (case J2a => rfl); (case J2b => rfl); k_whole; intro t h' F' N'; (try k_sweep)))
  k_with "eval Call" => (k_here; (with_reducible show wpAny _ _ (eval (Expr.Call (Expr.Name _ _) _ [] _) _) _ _ _); refine PyProof.Rows.Call_ ?_)
  k_with "call builtin:divmod" => (k_here; k_dflt (refine' JB.divmod_J ?J4k1 ?J4k2 ?J4k3 ?J4k4 ?_; (case J4k1 => k_asm); (case J4k2 => k_asm); (case J4k3 => decide); (case J4k4 => exact PyProof.noPylong_of_log2 (by decide +kernel)); intro D' h' F' N' l1; (try k_lt l1)))
  k_with "execs cons" => (k_here; (with_reducible show wpAny _ _ _ _ _ (Shared.mk _ _ _ (_ + 1 + 1 + 1) _)); (with_reducible refine JB.gen_toks ?_); intro tk)
  k_with "execs nil" => (k_here; (with_reducible show wpAny _ _ _ _ _ (Shared.mk _ _ _ (_ + 1 + 1 + 1) _)); (with_reducible refine JB.gen_toks ?_); intro tk)
  dsimp only [JCl, RVal, RTup]
  k_fill
  intros
  rename_i hpre hroom hunits hret
  refine wpAny_call ?_
  k_dflt cell_enter
  k_steps
  skip
  all_goals ((rename PyProof.Rows.Fr _ _ _ _ => jF); (rename PyProof.Rows.News _ _ _ _ => jN); refine cb_retB hret ?_ jF (by first | exact jN | exact cb_drop jN (by intro p hp; repeat (first | exact hp | apply List.mem_cons_of_mem))))
  all_goals (law_clear; (first | (apply Bool.eq_iff_iff.mpr; simp only [hleap, decide_eq_true_eq, beq_iff_eq, bne_iff_ne, ne_eq, beq_eq_false_iff_ne, bne_eq_false_iff_eq, decide_eq_false_iff_not, Bool.not_eq_true, fm_nn _ (show (0:Int) ≤ 4 by decide), fm_nn _ (show (0:Int) ≤ 7 by decide), fm_nn _ (show (0:Int) ≤ 10 by decide), fm_nn _ (show (0:Int) ≤ 19 by decide), fm_nn _ (show (0:Int) ≤ 100 by decide), fm_nn _ (show (0:Int) ≤ 400 by decide), fm_nn _ (show (0:Int) ≤ 25920 by decide)]; done) | (apply Bool.eq_iff_iff.mpr; simp only [hleap, decide_eq_true_eq, beq_iff_eq, bne_iff_ne, ne_eq, beq_eq_false_iff_ne, bne_eq_false_iff_eq, decide_eq_false_iff_not, Bool.not_eq_true, fm_nn _ (show (0:Int) ≤ 4 by decide), fm_nn _ (show (0:Int) ≤ 7 by decide), fm_nn _ (show (0:Int) ≤ 10 by decide), fm_nn _ (show (0:Int) ≤ 19 by decide), fm_nn _ (show (0:Int) ≤ 100 by decide), fm_nn _ (show (0:Int) ≤ 400 by decide), fm_nn _ (show (0:Int) ≤ 25920 by decide)] at *; omega)))
set_option maxRecDepth 100000 in
set_option maxHeartbeats 8000000 in
theorem C_year_months (w : World) (y : Int) (t_y : Tok) : JCl w 71 [.int y t_y] 2 (True) (RVal fun t => .int (hmonths y) t) := by
  k_with_none
  w_top off
  k_with "eval Name" => (k_here; (with_reducible show wpAny _ _ (eval (Expr.Name _ _) (envOf _ _ _ _ _)) _ _ _); (with_reducible rename Fr _ _ _ _ => kF); k_dflt (refine' name_K kF ?J1k1 ?J1k2 ?J1k3 ?_; (case J1k1 => k_asm); (case J1k2 => k_asm); (case J1k3 => k_is); k_whole))
  k_with "storeName" => (k_here; (with_reducible show wpAny _ _ (storeName _ _ (Value.int _ _)) _ _ _); k_dflt (refine' JB.store_int ?J2F ?J2N ?_ ?J2a ?J2b; (case J2F => k_asm); (case J2N => k_asm); (case J2a => rfl); (case J2b => rfl); k_whole; intro t h' F' N'; (try k_sweep)))
  k_with "eval Call" => (k_here; (with_reducible show wpAny _ _ (eval (Expr.Call (Expr.Name _ _) _ [] _) _) _ _ _); refine PyProof.Rows.Call_ ?_)
  k_with "call builtin:divmod" => (k_here; k_dflt (refine' JB.divmod_J ?J4k1 ?J4k2 ?J4k3 ?J4k4 ?_; (case J4k1 => k_asm); (case J4k2 => k_asm); (case J4k3 => decide); (case J4k4 => exact PyProof.noPylong_of_log2 (by decide +kernel)); intro D' h' F' N' l1; (try k_lt l1)))
  k_with "execs cons" => (k_here; (with_reducible show wpAny _ _ _ _ _ (Shared.mk _ _ _ (_ + 1 + 1 + 1) _)); (with_reducible refine JB.gen_toks ?_); intro tk)
  k_with "execs nil" => (k_here; (with_reducible show wpAny _ _ _ _ _ (Shared.mk _ _ _ (_ + 1 + 1 + 1) _)); (with_reducible refine JB.gen_toks ?_); intro tk)
  k_with "call ref" => (k_here; (with_reducible show wpAny _ _ (call (Value.ref 64) _) _ _ _); k_dflt (refine' JB.C_leap _ _ _ ?J7k1 ?J7k2 ?J7k3 ?J7k4 ?J7k5 ?J7kK ?J7kp ?J7kd ?J7ku ?_; (case J7k1 => first | k_asm | ktn_no "jb: the frames below"); (case J7k2 => first | k_asm | ktn_no "jb: the frame"); (case J7k3 => first | k_asm | ktn_no "jb: the written part"); (case J7k4 => first | k_asm | ktn_no "jb: the ledger"); (case J7k5 => first | k_asm | ktn_no "jb: the top's facts"); (case J7kK => first | exact rfl | assumption | ktn_no "jb: the caller is no def"); (case J7kd => first | ktr_room | ktn_no "jb: the frames' room"); (case J7ku => first | ktr_units | ktn_no "jb: the C units"); (case J7kp => first | (fail) | trivial | ((try dsimp only); first | with_reducible assumption | omega) | ktn_no "jb: what the claim asks"); intro t9 h9 tk9 F9 N9; (try dsimp only); (try k_fold)); walk_say "CONTRACT leap")
  dsimp only [JCl, RVal, RTup]
  k_fill
  intros
  rename_i hpre hroom hunits hret
  refine wpAny_call ?_
  k_dflt cell_enter
  k_steps
  skip
  all_goals ((rename PyProof.Rows.Fr _ _ _ _ => jF); (rename PyProof.Rows.News _ _ _ _ => jN); refine cb_retI hret ?_ jF (by first | exact jN | exact cb_drop jN (by intro p hp; repeat (first | exact hp | apply List.mem_cons_of_mem))))
  all_goals (law_clear; (((try simp only [hmonths, fm_nn _ (show (0:Int) ≤ 4 by decide), fm_nn _ (show (0:Int) ≤ 7 by decide), fm_nn _ (show (0:Int) ≤ 10 by decide), fm_nn _ (show (0:Int) ≤ 19 by decide), fm_nn _ (show (0:Int) ≤ 100 by decide), fm_nn _ (show (0:Int) ≤ 400 by decide), fm_nn _ (show (0:Int) ≤ 25920 by decide), fd_nn _ (show (0:Int) ≤ 4 by decide), fd_nn _ (show (0:Int) ≤ 12 by decide), fd_nn _ (show (0:Int) ≤ 19 by decide), fd_nn _ (show (0:Int) ≤ 100 by decide), fd_nn _ (show (0:Int) ≤ 400 by decide), fd_nn _ (show (0:Int) ≤ 25920 by decide), fd_nn _ (show (0:Int) ≤ 367 by decide), fd_nn _ (show (0:Int) ≤ 1461 by decide), fd_nn _ (show (0:Int) ≤ 146097 by decide), fd_nn _ (show (0:Int) ≤ 36524 by decide), fd_nn _ (show (0:Int) ≤ 365 by decide)] at *) <;> (repeat' split) <;> first | omega | (exfalso; simp_all; done))))
set_option maxRecDepth 100000 in
set_option maxHeartbeats 8000000 in
theorem C_delay_1 (w : World) (y : Int) (t_y : Tok) : JCl w 78 [.int y t_y] 1 (True) (RVal fun t => .int (delay1 y) t) := by
  k_with_none
  w_top off
  k_with "eval Name" => (k_here; (with_reducible show wpAny _ _ (eval (Expr.Name _ _) (envOf _ _ _ _ _)) _ _ _); (with_reducible rename Fr _ _ _ _ => kF); k_dflt (refine' name_K kF ?J1k1 ?J1k2 ?J1k3 ?_; (case J1k1 => k_asm); (case J1k2 => k_asm); (case J1k3 => k_is); k_whole))
  k_with "storeName" => (k_here; (with_reducible show wpAny _ _ (storeName _ _ (Value.int _ _)) _ _ _); k_dflt (refine' JB.store_int ?J2F ?J2N ?_ ?J2a ?J2b; (case J2F => k_asm); (case J2N => k_asm); (case J2a => rfl); (case J2b => rfl); k_whole; intro t h' F' N'; (try k_sweep)))
  k_with "eval Call" => (k_here; (with_reducible show wpAny _ _ (eval (Expr.Call (Expr.Name _ _) _ [] _) _) _ _ _); refine PyProof.Rows.Call_ ?_)
  k_with "call builtin:divmod" => (k_here; k_dflt (refine' JB.divmod_J ?J4k1 ?J4k2 ?J4k3 ?J4k4 ?_; (case J4k1 => k_asm); (case J4k2 => k_asm); (case J4k3 => decide); (case J4k4 => exact PyProof.noPylong_of_log2 (by decide +kernel)); intro D' h' F' N' l1; (try k_lt l1)))
  k_with "execs cons" => (k_here; (with_reducible show wpAny _ _ _ _ _ (Shared.mk _ _ _ (_ + 1 + 1 + 1) _)); (with_reducible refine JB.gen_toks ?_); intro tk)
  k_with "execs nil" => (k_here; (with_reducible show wpAny _ _ _ _ _ (Shared.mk _ _ _ (_ + 1 + 1 + 1) _)); (with_reducible refine JB.gen_toks ?_); intro tk)
  dsimp only [JCl, RVal, RTup]
  k_fill
  intros
  rename_i hpre hroom hunits hret
  refine wpAny_call ?_
  k_dflt cell_enter
  k_steps
  skip
  all_goals ((rename PyProof.Rows.Fr _ _ _ _ => jF); (rename PyProof.Rows.News _ _ _ _ => jN); refine cb_retI hret ?_ jF (by first | exact jN | exact cb_drop jN (by intro p hp; repeat (first | exact hp | apply List.mem_cons_of_mem))))
  all_goals (law_clear; (((try simp only [delay1, dday, fm_nn _ (show (0:Int) ≤ 4 by decide), fm_nn _ (show (0:Int) ≤ 7 by decide), fm_nn _ (show (0:Int) ≤ 10 by decide), fm_nn _ (show (0:Int) ≤ 19 by decide), fm_nn _ (show (0:Int) ≤ 100 by decide), fm_nn _ (show (0:Int) ≤ 400 by decide), fm_nn _ (show (0:Int) ≤ 25920 by decide), fd_nn _ (show (0:Int) ≤ 4 by decide), fd_nn _ (show (0:Int) ≤ 12 by decide), fd_nn _ (show (0:Int) ≤ 19 by decide), fd_nn _ (show (0:Int) ≤ 100 by decide), fd_nn _ (show (0:Int) ≤ 400 by decide), fd_nn _ (show (0:Int) ≤ 25920 by decide), fd_nn _ (show (0:Int) ≤ 367 by decide), fd_nn _ (show (0:Int) ≤ 1461 by decide), fd_nn _ (show (0:Int) ≤ 146097 by decide), fd_nn _ (show (0:Int) ≤ 36524 by decide), fd_nn _ (show (0:Int) ≤ 365 by decide)] at *) <;> (repeat' split) <;> first | omega | (exfalso; simp_all; done))))
set_option maxRecDepth 100000 in
set_option maxHeartbeats 8000000 in
theorem C_delay_2 (w : World) (y : Int) (t_y : Tok) : JCl w 85 [.int y t_y] 2 (True) (RVal fun t => .int (delay2 y) t) := by
  k_with_none
  w_top off
  k_with "eval Name" => (k_here; (with_reducible show wpAny _ _ (eval (Expr.Name _ _) (envOf _ _ _ _ _)) _ _ _); (with_reducible rename Fr _ _ _ _ => kF); k_dflt (refine' name_K kF ?J1k1 ?J1k2 ?J1k3 ?_; (case J1k1 => k_asm); (case J1k2 => k_asm); (case J1k3 => k_is); k_whole))
  k_with "storeName" => (k_here; (with_reducible show wpAny _ _ (storeName _ _ (Value.int _ _)) _ _ _); k_dflt (refine' JB.store_int ?J2F ?J2N ?_ ?J2a ?J2b; (case J2F => k_asm); (case J2N => k_asm); (case J2a => rfl); (case J2b => rfl); k_whole; intro t h' F' N'; (try k_sweep)))
  k_with "eval Call" => (k_here; (with_reducible show wpAny _ _ (eval (Expr.Call (Expr.Name _ _) _ [] _) _) _ _ _); refine PyProof.Rows.Call_ ?_)
  k_with "call builtin:divmod" => (k_here; k_dflt (refine' JB.divmod_J ?J4k1 ?J4k2 ?J4k3 ?J4k4 ?_; (case J4k1 => k_asm); (case J4k2 => k_asm); (case J4k3 => decide); (case J4k4 => exact PyProof.noPylong_of_log2 (by decide +kernel)); intro D' h' F' N' l1; (try k_lt l1)))
  k_with "execs cons" => (k_here; (with_reducible show wpAny _ _ _ _ _ (Shared.mk _ _ _ (_ + 1 + 1 + 1) _)); (with_reducible refine JB.gen_toks ?_); intro tk)
  k_with "execs nil" => (k_here; (with_reducible show wpAny _ _ _ _ _ (Shared.mk _ _ _ (_ + 1 + 1 + 1) _)); (with_reducible refine JB.gen_toks ?_); intro tk)
  k_with "call ref" => (k_here; (with_reducible show wpAny _ _ (call (Value.ref 78) _) _ _ _); k_dflt (refine' JB.C_delay_1 _ _ _ ?J7k1 ?J7k2 ?J7k3 ?J7k4 ?J7k5 ?J7kK ?J7kp ?J7kd ?J7ku ?_; (case J7k1 => first | k_asm | ktn_no "jb: the frames below"); (case J7k2 => first | k_asm | ktn_no "jb: the frame"); (case J7k3 => first | k_asm | ktn_no "jb: the written part"); (case J7k4 => first | k_asm | ktn_no "jb: the ledger"); (case J7k5 => first | k_asm | ktn_no "jb: the top's facts"); (case J7kK => first | exact rfl | assumption | ktn_no "jb: the caller is no def"); (case J7kd => first | ktr_room | ktn_no "jb: the frames' room"); (case J7ku => first | ktr_units | ktn_no "jb: the C units"); (case J7kp => first | (fail) | trivial | ((try dsimp only); first | with_reducible assumption | omega) | ktn_no "jb: what the claim asks"); intro t9 h9 tk9 F9 N9; (try dsimp only); (try k_fold)); walk_say "CONTRACT delay_1")
  dsimp only [JCl, RVal, RTup]
  k_fill
  intros
  rename_i hpre hroom hunits hret
  refine wpAny_call ?_
  k_dflt cell_enter
  k_steps
  skip
  all_goals ((rename PyProof.Rows.Fr _ _ _ _ => jF); (rename PyProof.Rows.News _ _ _ _ => jN); refine cb_retI hret ?_ jF (by first | exact jN | exact cb_drop jN (by intro p hp; repeat (first | exact hp | apply List.mem_cons_of_mem))))
  all_goals (law_clear; (((try simp only [delay2, fm_nn _ (show (0:Int) ≤ 4 by decide), fm_nn _ (show (0:Int) ≤ 7 by decide), fm_nn _ (show (0:Int) ≤ 10 by decide), fm_nn _ (show (0:Int) ≤ 19 by decide), fm_nn _ (show (0:Int) ≤ 100 by decide), fm_nn _ (show (0:Int) ≤ 400 by decide), fm_nn _ (show (0:Int) ≤ 25920 by decide), fd_nn _ (show (0:Int) ≤ 4 by decide), fd_nn _ (show (0:Int) ≤ 12 by decide), fd_nn _ (show (0:Int) ≤ 19 by decide), fd_nn _ (show (0:Int) ≤ 100 by decide), fd_nn _ (show (0:Int) ≤ 400 by decide), fd_nn _ (show (0:Int) ≤ 25920 by decide), fd_nn _ (show (0:Int) ≤ 367 by decide), fd_nn _ (show (0:Int) ≤ 1461 by decide), fd_nn _ (show (0:Int) ≤ 146097 by decide), fd_nn _ (show (0:Int) ≤ 36524 by decide), fd_nn _ (show (0:Int) ≤ 365 by decide)] at *) <;> (repeat' split) <;> first | omega | (exfalso; simp_all; done))))
set_option maxRecDepth 100000 in
set_option maxHeartbeats 8000000 in
theorem C_from_jd (w : World) (j : Int) (t_j : Tok) : JCl w 57 [.int j t_j] 4 (True) (RTup (fy j) (fm j) (fd j)) := by
  k_with_none
  w_top off
  k_with "eval Name" => (k_here; (with_reducible show wpAny _ _ (eval (Expr.Name _ _) (envOf _ _ _ _ _)) _ _ _); (with_reducible rename Fr _ _ _ _ => kF); k_dflt (refine' name_K kF ?J1k1 ?J1k2 ?J1k3 ?_; (case J1k1 => k_asm); (case J1k2 => k_asm); (case J1k3 => k_is); k_whole))
  k_with "storeName" => (k_here; (with_reducible show wpAny _ _ (storeName _ _ (Value.int _ _)) _ _ _); k_dflt (refine' JB.store_int ?J2F ?J2N ?_ ?J2a ?J2b; (case J2F => k_asm); (case J2N => k_asm); (case J2a => rfl); (case J2b => rfl); k_whole; intro t h' F' N'; (try k_sweep)))
  k_with "eval Call" => (k_here; (with_reducible show wpAny _ _ (eval (Expr.Call (Expr.Name _ _) _ [] _) _) _ _ _); refine PyProof.Rows.Call_ ?_)
  k_with "call builtin:divmod" => (k_here; k_dflt (refine' JB.divmod_J ?J4k1 ?J4k2 ?J4k3 ?J4k4 ?_; (case J4k1 => k_asm); (case J4k2 => k_asm); (case J4k3 => decide); (case J4k4 => exact PyProof.noPylong_of_log2 (by decide +kernel)); intro D' h' F' N' l1; (try k_lt l1)))
  k_with "execs cons" => (k_here; (with_reducible show wpAny _ _ _ _ _ (Shared.mk _ _ _ (_ + 1 + 1 + 1) _)); (with_reducible refine JB.gen_toks ?_); intro tk)
  k_with "execs nil" => (k_here; (with_reducible show wpAny _ _ _ _ _ (Shared.mk _ _ _ (_ + 1 + 1 + 1) _)); (with_reducible refine JB.gen_toks ?_); intro tk)
  k_with "call ref" => (k_here; (with_reducible show wpAny _ _ (call (Value.ref 21) _) _ _ _); k_dflt (refine' JB.C_isleap _ _ _ ?J7k1 ?J7k2 ?J7k3 ?J7k4 ?J7k5 ?J7kK ?J7kp ?J7kd ?J7ku ?_; (case J7k1 => first | k_asm | ktn_no "jb: the frames below"); (case J7k2 => first | k_asm | ktn_no "jb: the frame"); (case J7k3 => first | k_asm | ktn_no "jb: the written part"); (case J7k4 => first | k_asm | ktn_no "jb: the ledger"); (case J7k5 => first | k_asm | ktn_no "jb: the top's facts"); (case J7kK => first | exact rfl | assumption | ktn_no "jb: the caller is no def"); (case J7kd => first | ktr_room | ktn_no "jb: the frames' room"); (case J7ku => first | ktr_units | ktn_no "jb: the C units"); (case J7kp => first | (fail) | trivial | ((try dsimp only); first | with_reducible assumption | omega) | ktn_no "jb: what the claim asks"); intro t9 h9 tk9 F9 N9; (try dsimp only); (try k_fold)); walk_say "CONTRACT isleap")
  k_with "call ref" => (k_here; (with_reducible show wpAny _ _ (call (Value.ref 50) _) _ _ _); k_dflt (refine' JB.C_to_jd_gregorian _ _ _ _ _ _ _ ?J8k1 ?J8k2 ?J8k3 ?J8k4 ?J8k5 ?J8kK ?J8kp ?J8kd ?J8ku ?_; (case J8k1 => first | k_asm | ktn_no "jb: the frames below"); (case J8k2 => first | k_asm | ktn_no "jb: the frame"); (case J8k3 => first | k_asm | ktn_no "jb: the written part"); (case J8k4 => first | k_asm | ktn_no "jb: the ledger"); (case J8k5 => first | k_asm | ktn_no "jb: the top's facts"); (case J8kK => first | exact rfl | assumption | ktn_no "jb: the caller is no def"); (case J8kd => first | ktr_room | ktn_no "jb: the frames' room"); (case J8ku => first | ktr_units | ktn_no "jb: the C units"); (case J8kp => first | (first | exact JB.gdim_one _ _ | exact JB.gdim_jd _) | trivial | ((try dsimp only); first | with_reducible assumption | omega) | ktn_no "jb: what the claim asks"); intro t9 h9 tk9 F9 N9; (try dsimp only); (try k_fold)); walk_say "CONTRACT to_jd_gregorian")
  k_with "eval Name" => (k_here; (with_reducible show wpAny _ _ (eval (Expr.Name (Str.ofString "year") _) _) _ _ _); k_dflt (refine' PyProof.Rows.ld ?J9k1 ?J9k2 ?_; (case J9k1 => k_asm); (case J9k2 => assumption)))
  k_with "loadName" => (k_here; (with_reducible show wpAny _ _ (loadName _ (Str.ofString "year")) _ _ _); k_dflt (refine' PyProof.Rows.ldn ?J10k1 ?J10k2 ?_; (case J10k1 => k_asm); (case J10k2 => assumption)))
  k_with "eval Name" => (k_here; (with_reducible show wpAny _ _ (eval (Expr.Name (Str.ofString "wjd") _) _) _ _ _); k_dflt (refine' PyProof.Rows.ld ?J11k1 ?J11k2 ?_; (case J11k1 => k_asm); (case J11k2 => assumption)))
  k_with "loadName" => (k_here; (with_reducible show wpAny _ _ (loadName _ (Str.ofString "wjd")) _ _ _); k_dflt (refine' PyProof.Rows.ldn ?J12k1 ?J12k2 ?_; (case J12k1 => k_asm); (case J12k2 => assumption)))
  k_with "eval Name" => (k_here; (with_reducible show wpAny _ _ (eval (Expr.Name (Str.ofString "yearday") _) _) _ _ _); k_dflt (refine' PyProof.Rows.ld ?J13k1 ?J13k2 ?_; (case J13k1 => k_asm); (case J13k2 => assumption)))
  k_with "loadName" => (k_here; (with_reducible show wpAny _ _ (loadName _ (Str.ofString "yearday")) _ _ _); k_dflt (refine' PyProof.Rows.ldn ?J14k1 ?J14k2 ?_; (case J14k1 => k_asm); (case J14k2 => assumption)))
  k_with "eval Name" => (k_here; (with_reducible show wpAny _ _ (eval (Expr.Name (Str.ofString "leap_adj") _) _) _ _ _); k_dflt (refine' PyProof.Rows.ld ?J15k1 ?J15k2 ?_; (case J15k1 => k_asm); (case J15k2 => assumption)))
  k_with "loadName" => (k_here; (with_reducible show wpAny _ _ (loadName _ (Str.ofString "leap_adj")) _ _ _); k_dflt (refine' PyProof.Rows.ldn ?J16k1 ?J16k2 ?_; (case J16k1 => k_asm); (case J16k2 => assumption)))
  dsimp only [JCl, RVal, RTup]
  k_fill
  intros
  rename_i hpre hroom hunits hret
  refine wpAny_call ?_
  k_dflt cell_enter
  repeat' ((fail_if_success (with_reducible show wpAny _ _ (execs (Stmt.If _ _ _ _ :: _) _) _ _ _)); (first | (k_unfold; (try dsimp only)) | (k_end; wrow_close) | walk1 | (dsimp only; walk1) | (leave1; walk_say "STEP leave1"; try dsimp only) | fail "no step"))
  (rename PyProof.Rows.Fr _ _ _ _ => jF)
  (rename PyProof.Rows.News _ _ _ _ => jN)
  refine execs_cut1 (GCutS jF jN (fun m2 => (∃ v t, m2 (Str.ofString "year") = some (.int v t) ∧ v = fy j) ∧ (∃ t, m2 (Str.ofString "wjd") = some (.int j t)))) ?_ ?_
  · k_steps
    all_goals ((rename PyProof.Rows.Fr _ _ _ _ => jF9); (rename PyProof.Rows.News _ _ _ _ => jN9); refine ⟨_, _, _, rfl, jF9, jN9, ⟨_, _, rfl, ?_⟩, ⟨_, rfl⟩⟩)
    all_goals first
      | exact year_a rfl (by first | exact .inl (by assumption) | exact .inr (by assumption))
      | exact year_b rfl (by assumption) (by assumption)
  intro s2 hP
  obtain ⟨h2, tk2, m2, hs2, F2, N2, ⟨vY, tY, gY, eY⟩, ⟨tW, gW⟩⟩ := hP
  subst hs2
  subst eY
  clear jF jN
  repeat' ((fail_if_success (with_reducible show wpAny _ _ (execs (Stmt.If _ _ _ _ :: _) _) _ _ _)); (first | (k_unfold; (try dsimp only)) | (k_end; wrow_close) | walk1 | (dsimp only; walk1) | (leave1; walk_say "STEP leave1"; try dsimp only) | fail "no step"))
  (rename PyProof.Rows.Fr _ _ _ _ => jF)
  (rename PyProof.Rows.News _ _ _ _ => jN)
  refine execs_cut1 (GCutS jF jN (fun m2 => (∃ t, m2 (Str.ofString "year") = some (.int (fy j) t)) ∧ (∃ t, m2 (Str.ofString "wjd") = some (.int j t)) ∧ (∃ t, m2 (Str.ofString "yearday") = some (.int (j - gto (fy j) 1 1) t)) ∧ (∃ v t, m2 (Str.ofString "leap_adj") = some (.int v t) ∧ v = fadj j))) ?_ ?_
  · k_steps
    all_goals ((rename PyProof.Rows.Fr _ _ _ _ => jF9); (rename PyProof.Rows.News _ _ _ _ => jN9); refine ⟨_, _, _, rfl, jF9, jN9, ⟨_, gY⟩, ⟨_, gW⟩, ⟨_, rfl⟩, ⟨_, _, rfl, ?_⟩⟩)
    all_goals first
      | exact fadj_a (.inl ⟨rfl, by with_reducible assumption⟩)
      | exact fadj_a (.inr (.inl ⟨rfl, by with_reducible assumption, by with_reducible assumption⟩))
      | exact fadj_a (.inr (.inr ⟨rfl, by with_reducible assumption, by with_reducible assumption⟩))
  intro s3 hP
  obtain ⟨h3, tk3, m3, hs3, F3, N3, ⟨tY3, gY3⟩, ⟨tW3, gW3⟩, ⟨tD3, gD3⟩, ⟨vA, tA, gA, eA⟩⟩ := hP
  subst hs3
  subst eA
  clear jF jN gY gW
  k_steps
  skip
  all_goals ((rename PyProof.Rows.Fr _ _ _ _ => jF); (rename PyProof.Rows.News _ _ _ _ => jN); refine tup_ret hret jF (by first | exact jN | exact news_skip jN) ?_ ?_ ?_)
  all_goals (law_clear; (first | rfl | (simp only [fd_nn _ (show (0:Int) ≤ 367 by decide)]; first | exact fm_b | exact fd_a fm_b)))
set_option maxRecDepth 100000 in
set_option maxHeartbeats 8000000 in
theorem C_hny (w : World) (y : Int) (t_y : Tok) (t_m : Tok) (d : Int) (t_d : Tok) : JCl w 113 [.int y t_y, .int 7 t_m, .int d t_d] 3 (True) (RVal fun t => .int (mid (347996 + delay1 y + delay2 y + d + 1)) t) := by
  k_with_none
  w_top off
  k_with "eval Name" => (k_here; (with_reducible show wpAny _ _ (eval (Expr.Name _ _) (envOf _ _ _ _ _)) _ _ _); (with_reducible rename Fr _ _ _ _ => kF); k_dflt (refine' name_K kF ?J1k1 ?J1k2 ?J1k3 ?_; (case J1k1 => k_asm); (case J1k2 => k_asm); (case J1k3 => k_is); k_whole))
  k_with "storeName" => (k_here; (with_reducible show wpAny _ _ (storeName _ _ (Value.int _ _)) _ _ _); k_dflt (refine' JB.store_int ?J2F ?J2N ?_ ?J2a ?J2b; (case J2F => k_asm); (case J2N => k_asm); (case J2a => rfl); (case J2b => rfl); k_whole; intro t h' F' N'; (try k_sweep)))
  k_with "eval Call" => (k_here; (with_reducible show wpAny _ _ (eval (Expr.Call (Expr.Name _ _) _ [] _) _) _ _ _); refine PyProof.Rows.Call_ ?_)
  k_with "call builtin:divmod" => (k_here; k_dflt (refine' JB.divmod_J ?J4k1 ?J4k2 ?J4k3 ?J4k4 ?_; (case J4k1 => k_asm); (case J4k2 => k_asm); (case J4k3 => decide); (case J4k4 => exact PyProof.noPylong_of_log2 (by decide +kernel)); intro D' h' F' N' l1; (try k_lt l1)))
  k_with "execs cons" => (k_here; (with_reducible show wpAny _ _ _ _ _ (Shared.mk _ _ _ (_ + 1 + 1 + 1) _)); (with_reducible refine JB.gen_toks ?_); intro tk)
  k_with "execs nil" => (k_here; (with_reducible show wpAny _ _ _ _ _ (Shared.mk _ _ _ (_ + 1 + 1 + 1) _)); (with_reducible refine JB.gen_toks ?_); intro tk)
  k_with "call ref" => (k_here; (with_reducible show wpAny _ _ (call (Value.ref 71) _) _ _ _); k_dflt (refine' JB.C_year_months _ _ _ ?J7k1 ?J7k2 ?J7k3 ?J7k4 ?J7k5 ?J7kK ?J7kp ?J7kd ?J7ku ?_; (case J7k1 => first | k_asm | ktn_no "jb: the frames below"); (case J7k2 => first | k_asm | ktn_no "jb: the frame"); (case J7k3 => first | k_asm | ktn_no "jb: the written part"); (case J7k4 => first | k_asm | ktn_no "jb: the ledger"); (case J7k5 => first | k_asm | ktn_no "jb: the top's facts"); (case J7kK => first | exact rfl | assumption | ktn_no "jb: the caller is no def"); (case J7kd => first | ktr_room | ktn_no "jb: the frames' room"); (case J7ku => first | ktr_units | ktn_no "jb: the C units"); (case J7kp => first | (fail) | trivial | ((try dsimp only); first | with_reducible assumption | omega) | ktn_no "jb: what the claim asks"); intro t9 h9 tk9 F9 N9; (try dsimp only); (try k_fold)); walk_say "CONTRACT year_months")
  k_with "call ref" => (k_here; (with_reducible show wpAny _ _ (call (Value.ref 78) _) _ _ _); k_dflt (refine' JB.C_delay_1 _ _ _ ?J8k1 ?J8k2 ?J8k3 ?J8k4 ?J8k5 ?J8kK ?J8kp ?J8kd ?J8ku ?_; (case J8k1 => first | k_asm | ktn_no "jb: the frames below"); (case J8k2 => first | k_asm | ktn_no "jb: the frame"); (case J8k3 => first | k_asm | ktn_no "jb: the written part"); (case J8k4 => first | k_asm | ktn_no "jb: the ledger"); (case J8k5 => first | k_asm | ktn_no "jb: the top's facts"); (case J8kK => first | exact rfl | assumption | ktn_no "jb: the caller is no def"); (case J8kd => first | ktr_room | ktn_no "jb: the frames' room"); (case J8ku => first | ktr_units | ktn_no "jb: the C units"); (case J8kp => first | (fail) | trivial | ((try dsimp only); first | with_reducible assumption | omega) | ktn_no "jb: what the claim asks"); intro t9 h9 tk9 F9 N9; (try dsimp only); (try k_fold)); walk_say "CONTRACT delay_1")
  k_with "call ref" => (k_here; (with_reducible show wpAny _ _ (call (Value.ref 85) _) _ _ _); k_dflt (refine' JB.C_delay_2 _ _ _ ?J9k1 ?J9k2 ?J9k3 ?J9k4 ?J9k5 ?J9kK ?J9kp ?J9kd ?J9ku ?_; (case J9k1 => first | k_asm | ktn_no "jb: the frames below"); (case J9k2 => first | k_asm | ktn_no "jb: the frame"); (case J9k3 => first | k_asm | ktn_no "jb: the written part"); (case J9k4 => first | k_asm | ktn_no "jb: the ledger"); (case J9k5 => first | k_asm | ktn_no "jb: the top's facts"); (case J9kK => first | exact rfl | assumption | ktn_no "jb: the caller is no def"); (case J9kd => first | ktr_room | ktn_no "jb: the frames' room"); (case J9ku => first | ktr_units | ktn_no "jb: the C units"); (case J9kp => first | (fail) | trivial | ((try dsimp only); first | with_reducible assumption | omega) | ktn_no "jb: what the claim asks"); intro t9 h9 tk9 F9 N9; (try dsimp only); (try k_fold)); walk_say "CONTRACT delay_2")
  k_with "call ref" => (k_here; (with_reducible show wpAny _ _ (call (Value.ref 28) _) _ _ _); k_dflt (refine' JB.C_midnight _ _ _ ?J10k1 ?J10k2 ?J10k3 ?J10k4 ?J10k5 ?J10kK ?J10kp ?J10kd ?J10ku ?_; (case J10k1 => first | k_asm | ktn_no "jb: the frames below"); (case J10k2 => first | k_asm | ktn_no "jb: the frame"); (case J10k3 => first | k_asm | ktn_no "jb: the written part"); (case J10k4 => first | k_asm | ktn_no "jb: the ledger"); (case J10k5 => first | k_asm | ktn_no "jb: the top's facts"); (case J10kK => first | exact rfl | assumption | ktn_no "jb: the caller is no def"); (case J10kd => first | ktr_room | ktn_no "jb: the frames' room"); (case J10ku => first | ktr_units | ktn_no "jb: the C units"); (case J10kp => first | (fail) | trivial | ((try dsimp only); first | with_reducible assumption | omega) | ktn_no "jb: what the claim asks"); intro t9 h9 tk9 F9 N9; (try dsimp only); (try k_fold)); walk_say "CONTRACT midnight")
  dsimp only [JCl, RVal, RTup]
  k_fill
  intros
  rename_i hpre hroom hunits hret
  refine wpAny_call ?_
  k_dflt cell_enter
  k_steps
  skip
  all_goals ((rename PyProof.Rows.Fr _ _ _ _ => jF); (rename PyProof.Rows.News _ _ _ _ => jN); refine cb_retI hret ?_ jF (by first | exact jN | exact cb_drop jN (by intro p hp; repeat (first | exact hp | apply List.mem_cons_of_mem))))
  all_goals (law_clear; (first | rfl | omega))
set_option maxRecDepth 100000 in
set_option maxHeartbeats 8000000 in
theorem C_year_days (w : World) (y : Int) (t_y : Tok) : JCl w 92 [.int y t_y] 4 (True) (RVal fun t => .int (hyd y) t) := by
  k_with_none
  w_top off
  k_with "eval Name" => (k_here; (with_reducible show wpAny _ _ (eval (Expr.Name _ _) (envOf _ _ _ _ _)) _ _ _); (with_reducible rename Fr _ _ _ _ => kF); k_dflt (refine' name_K kF ?J1k1 ?J1k2 ?J1k3 ?_; (case J1k1 => k_asm); (case J1k2 => k_asm); (case J1k3 => k_is); k_whole))
  k_with "storeName" => (k_here; (with_reducible show wpAny _ _ (storeName _ _ (Value.int _ _)) _ _ _); k_dflt (refine' JB.store_int ?J2F ?J2N ?_ ?J2a ?J2b; (case J2F => k_asm); (case J2N => k_asm); (case J2a => rfl); (case J2b => rfl); k_whole; intro t h' F' N'; (try k_sweep)))
  k_with "eval Call" => (k_here; (with_reducible show wpAny _ _ (eval (Expr.Call (Expr.Name _ _) _ [] _) _) _ _ _); refine PyProof.Rows.Call_ ?_)
  k_with "call builtin:divmod" => (k_here; k_dflt (refine' JB.divmod_J ?J4k1 ?J4k2 ?J4k3 ?J4k4 ?_; (case J4k1 => k_asm); (case J4k2 => k_asm); (case J4k3 => decide); (case J4k4 => exact PyProof.noPylong_of_log2 (by decide +kernel)); intro D' h' F' N' l1; (try k_lt l1)))
  k_with "execs cons" => (k_here; (with_reducible show wpAny _ _ _ _ _ (Shared.mk _ _ _ (_ + 1 + 1 + 1) _)); (with_reducible refine JB.gen_toks ?_); intro tk)
  k_with "execs nil" => (k_here; (with_reducible show wpAny _ _ _ _ _ (Shared.mk _ _ _ (_ + 1 + 1 + 1) _)); (with_reducible refine JB.gen_toks ?_); intro tk)
  k_with "call ref" => (k_here; (with_reducible show wpAny _ _ (call (Value.ref 113) _) _ _ _); k_dflt (refine' JB.C_hny _ _ _ _ _ _ ?J7k1 ?J7k2 ?J7k3 ?J7k4 ?J7k5 ?J7kK ?J7kp ?J7kd ?J7ku ?_; (case J7k1 => first | k_asm | ktn_no "jb: the frames below"); (case J7k2 => first | k_asm | ktn_no "jb: the frame"); (case J7k3 => first | k_asm | ktn_no "jb: the written part"); (case J7k4 => first | k_asm | ktn_no "jb: the ledger"); (case J7k5 => first | k_asm | ktn_no "jb: the top's facts"); (case J7kK => first | exact rfl | assumption | ktn_no "jb: the caller is no def"); (case J7kd => first | ktr_room | ktn_no "jb: the frames' room"); (case J7ku => first | ktr_units | ktn_no "jb: the C units"); (case J7kp => first | (fail) | trivial | ((try dsimp only); first | with_reducible assumption | omega) | ktn_no "jb: what the claim asks"); intro t9 h9 tk9 F9 N9; (try dsimp only); (try k_fold)); walk_say "CONTRACT hny")
  dsimp only [JCl, RVal, RTup]
  k_fill
  intros
  rename_i hpre hroom hunits hret
  refine wpAny_call ?_
  k_dflt cell_enter
  k_steps
  skip
  all_goals ((rename PyProof.Rows.Fr _ _ _ _ => jF); (rename PyProof.Rows.News _ _ _ _ => jN); refine cb_retI hret ?_ jF (by first | exact jN | exact cb_drop jN (by intro p hp; repeat (first | exact hp | apply List.mem_cons_of_mem))))
  all_goals (law_clear; (first | rfl | (unfold hyd hny; omega)))
set_option maxRecDepth 100000 in
set_option maxHeartbeats 8000000 in
theorem C_month_length (w : World) (y : Int) (t_y : Tok) (m : Int) (t_m : Tok) : JCl w 99 [.int y t_y, .int m t_m] 5 (1 ≤ m ∧ m ≤ 13) (RVal fun t => .int (hml y m) t) := by
  k_with_none
  w_top off
  k_with "eval Name" => (k_here; (with_reducible show wpAny _ _ (eval (Expr.Name _ _) (envOf _ _ _ _ _)) _ _ _); (with_reducible rename Fr _ _ _ _ => kF); k_dflt (refine' name_K kF ?J1k1 ?J1k2 ?J1k3 ?_; (case J1k1 => k_asm); (case J1k2 => k_asm); (case J1k3 => k_is); k_whole))
  k_with "storeName" => (k_here; (with_reducible show wpAny _ _ (storeName _ _ (Value.int _ _)) _ _ _); k_dflt (refine' JB.store_int ?J2F ?J2N ?_ ?J2a ?J2b; (case J2F => k_asm); (case J2N => k_asm); (case J2a => rfl); (case J2b => rfl); k_whole; intro t h' F' N'; (try k_sweep)))
  k_with "eval Call" => (k_here; (with_reducible show wpAny _ _ (eval (Expr.Call (Expr.Name _ _) _ [] _) _) _ _ _); refine PyProof.Rows.Call_ ?_)
  k_with "call builtin:divmod" => (k_here; k_dflt (refine' JB.divmod_J ?J4k1 ?J4k2 ?J4k3 ?J4k4 ?_; (case J4k1 => k_asm); (case J4k2 => k_asm); (case J4k3 => decide); (case J4k4 => exact PyProof.noPylong_of_log2 (by decide +kernel)); intro D' h' F' N' l1; (try k_lt l1)))
  k_with "execs cons" => (k_here; (with_reducible show wpAny _ _ _ _ _ (Shared.mk _ _ _ (_ + 1 + 1 + 1) _)); (with_reducible refine JB.gen_toks ?_); intro tk)
  k_with "execs nil" => (k_here; (with_reducible show wpAny _ _ _ _ _ (Shared.mk _ _ _ (_ + 1 + 1 + 1) _)); (with_reducible refine JB.gen_toks ?_); intro tk)
  k_with "call ref" => (k_here; (with_reducible show wpAny _ _ (call (Value.ref 92) _) _ _ _); k_dflt (refine' JB.C_year_days _ _ _ ?J7k1 ?J7k2 ?J7k3 ?J7k4 ?J7k5 ?J7kK ?J7kp ?J7kd ?J7ku ?_; (case J7k1 => first | k_asm | ktn_no "jb: the frames below"); (case J7k2 => first | k_asm | ktn_no "jb: the frame"); (case J7k3 => first | k_asm | ktn_no "jb: the written part"); (case J7k4 => first | k_asm | ktn_no "jb: the ledger"); (case J7k5 => first | k_asm | ktn_no "jb: the top's facts"); (case J7kK => first | exact rfl | assumption | ktn_no "jb: the caller is no def"); (case J7kd => first | ktr_room | ktn_no "jb: the frames' room"); (case J7ku => first | ktr_units | ktn_no "jb: the C units"); (case J7kp => first | (fail) | trivial | ((try dsimp only); first | with_reducible assumption | omega) | ktn_no "jb: what the claim asks"); intro t9 h9 tk9 F9 N9; (try dsimp only); (try k_fold)); walk_say "CONTRACT year_days")
  k_with "call ref" => (k_here; (with_reducible show wpAny _ _ (call (Value.ref 64) _) _ _ _); k_dflt (refine' JB.C_leap _ _ _ ?J8k1 ?J8k2 ?J8k3 ?J8k4 ?J8k5 ?J8kK ?J8kp ?J8kd ?J8ku ?_; (case J8k1 => first | k_asm | ktn_no "jb: the frames below"); (case J8k2 => first | k_asm | ktn_no "jb: the frame"); (case J8k3 => first | k_asm | ktn_no "jb: the written part"); (case J8k4 => first | k_asm | ktn_no "jb: the ledger"); (case J8k5 => first | k_asm | ktn_no "jb: the top's facts"); (case J8kK => first | exact rfl | assumption | ktn_no "jb: the caller is no def"); (case J8kd => first | ktr_room | ktn_no "jb: the frames' room"); (case J8ku => first | ktr_units | ktn_no "jb: the C units"); (case J8kp => first | (fail) | trivial | ((try dsimp only); first | with_reducible assumption | omega) | ktn_no "jb: what the claim asks"); intro t9 h9 tk9 F9 N9; (try dsimp only); (try k_fold)); walk_say "CONTRACT leap")
  k_with "ite" => (k_here; k_openite; first | (refine ite_neg (by (law_clear; (try simp only [decide_eq_true_eq, beq_iff_eq]); omega)) ?_; walk_say "PRUNED BY OMEGA") | (refine ite_pos (by (law_clear; (try simp only [decide_eq_true_eq, beq_iff_eq]); omega)) ?_; walk_say "PRUNED BY OMEGA"))
  dsimp only [JCl, RVal, RTup]
  k_fill
  intros
  rename_i hpre hroom hunits hret
  obtain ⟨hm1, hm2⟩ := hpre
  refine wpAny_call ?_
  k_dflt cell_enter
  k_steps
  skip
  all_goals ((rename PyProof.Rows.Fr _ _ _ _ => jF); (rename PyProof.Rows.News _ _ _ _ => jN); refine cb_retI hret ?_ jF (by first | exact jN | exact cb_drop jN (by intro p hp; repeat (first | exact hp | apply List.mem_cons_of_mem))))
  all_goals (law_clear; (first | exact hml_1 (by with_reducible assumption) | exact hml_2 (by with_reducible assumption) (by with_reducible assumption) (by with_reducible assumption) | exact hml_3 (by with_reducible assumption) (by with_reducible assumption) (by with_reducible assumption) | exact hml_4 (by with_reducible assumption) (by with_reducible assumption) (by with_reducible assumption) (by with_reducible assumption) | exact hml_5 (by with_reducible assumption) (by with_reducible assumption) (by with_reducible assumption) (by with_reducible assumption) | exact hml_6 (by with_reducible assumption) (by with_reducible assumption) (by with_reducible assumption) (by with_reducible assumption) (by with_reducible assumption) | exact hml_7 (by with_reducible assumption) (by with_reducible assumption) (by with_reducible assumption) (by with_reducible assumption) (by with_reducible assumption) | exact hml_8 (by with_reducible assumption) (by with_reducible assumption) (by with_reducible assumption) (by with_reducible assumption)))
set_option maxRecDepth 100000 in
set_option maxHeartbeats 8000000 in
theorem C_month_days (w : World) (y : Int) (t_y : Tok) (m : Int) (t_m : Tok) : JCl w 106 [.int y t_y, .int m t_m] 6 (1 ≤ m ∧ m ≤ 13) (RVal fun t => .int (hml y m) t) := by
  k_with_none
  w_top off
  k_with "eval Name" => (k_here; (with_reducible show wpAny _ _ (eval (Expr.Name _ _) (envOf _ _ _ _ _)) _ _ _); (with_reducible rename Fr _ _ _ _ => kF); k_dflt (refine' name_K kF ?J1k1 ?J1k2 ?J1k3 ?_; (case J1k1 => k_asm); (case J1k2 => k_asm); (case J1k3 => k_is); k_whole))
  k_with "storeName" => (k_here; (with_reducible show wpAny _ _ (storeName _ _ (Value.int _ _)) _ _ _); k_dflt (refine' JB.store_int ?J2F ?J2N ?_ ?J2a ?J2b; (case J2F => k_asm); (case J2N => k_asm); (case J2a => rfl); (case J2b => rfl); k_whole; intro t h' F' N'; (try k_sweep)))
  k_with "eval Call" => (k_here; (with_reducible show wpAny _ _ (eval (Expr.Call (Expr.Name _ _) _ [] _) _) _ _ _); refine PyProof.Rows.Call_ ?_)
  k_with "call builtin:divmod" => (k_here; k_dflt (refine' JB.divmod_J ?J4k1 ?J4k2 ?J4k3 ?J4k4 ?_; (case J4k1 => k_asm); (case J4k2 => k_asm); (case J4k3 => decide); (case J4k4 => exact PyProof.noPylong_of_log2 (by decide +kernel)); intro D' h' F' N' l1; (try k_lt l1)))
  k_with "execs cons" => (k_here; (with_reducible show wpAny _ _ _ _ _ (Shared.mk _ _ _ (_ + 1 + 1 + 1) _)); (with_reducible refine JB.gen_toks ?_); intro tk)
  k_with "execs nil" => (k_here; (with_reducible show wpAny _ _ _ _ _ (Shared.mk _ _ _ (_ + 1 + 1 + 1) _)); (with_reducible refine JB.gen_toks ?_); intro tk)
  k_with "call ref" => (k_here; (with_reducible show wpAny _ _ (call (Value.ref 99) _) _ _ _); k_dflt (refine' JB.C_month_length _ _ _ _ _ ?J7k1 ?J7k2 ?J7k3 ?J7k4 ?J7k5 ?J7kK ?J7kp ?J7kd ?J7ku ?_; (case J7k1 => first | k_asm | ktn_no "jb: the frames below"); (case J7k2 => first | k_asm | ktn_no "jb: the frame"); (case J7k3 => first | k_asm | ktn_no "jb: the written part"); (case J7k4 => first | k_asm | ktn_no "jb: the ledger"); (case J7k5 => first | k_asm | ktn_no "jb: the top's facts"); (case J7kK => first | exact rfl | assumption | ktn_no "jb: the caller is no def"); (case J7kd => first | ktr_room | ktn_no "jb: the frames' room"); (case J7ku => first | ktr_units | ktn_no "jb: the C units"); (case J7kp => first | (fail) | trivial | ((try dsimp only); first | with_reducible assumption | omega) | ktn_no "jb: what the claim asks"); intro t9 h9 tk9 F9 N9; (try dsimp only); (try k_fold)); walk_say "CONTRACT month_length")
  dsimp only [JCl, RVal, RTup]
  k_fill
  intros
  rename_i hpre hroom hunits hret
  refine wpAny_call ?_
  k_dflt cell_enter
  k_steps
  skip
  all_goals ((rename PyProof.Rows.Fr _ _ _ _ => jF); (rename PyProof.Rows.News _ _ _ _ => jN); refine cb_retI hret ?_ jF (by first | exact jN | exact cb_drop jN (by intro p hp; repeat (first | exact hp | apply List.mem_cons_of_mem))))
  all_goals (law_clear; (rfl))
set_option maxRecDepth 100000 in
set_option maxHeartbeats 8000000 in
theorem C_to_jd_hebrew (w : World) (y : Int) (t_y : Tok) (m : Int) (t_m : Tok) (d : Int) (t_d : Tok) : JCl w 113 [.int y t_y, .int m t_m, .int d t_d] 7 (1 ≤ m ∧ m ≤ 13) (RVal fun t => .int (hto y m d) t) := by
  k_with_none
  w_top off
  k_with "eval Name" => (k_here; (with_reducible show wpAny _ _ (eval (Expr.Name _ _) (envOf _ _ _ _ _)) _ _ _); (with_reducible rename Fr _ _ _ _ => kF); k_dflt (refine' name_K kF ?J1k1 ?J1k2 ?J1k3 ?_; (case J1k1 => k_asm); (case J1k2 => k_asm); (case J1k3 => k_is); k_whole))
  k_with "storeName" => (k_here; (with_reducible show wpAny _ _ (storeName _ _ (Value.int _ _)) _ _ _); k_dflt (refine' JB.store_int ?J2F ?J2N ?_ ?J2a ?J2b; (case J2F => k_asm); (case J2N => k_asm); (case J2a => rfl); (case J2b => rfl); k_whole; intro t h' F' N'; (try k_sweep)))
  k_with "eval Call" => (k_here; (with_reducible show wpAny _ _ (eval (Expr.Call (Expr.Name _ _) _ [] _) _) _ _ _); refine PyProof.Rows.Call_ ?_)
  k_with "call builtin:divmod" => (k_here; k_dflt (refine' JB.divmod_J ?J4k1 ?J4k2 ?J4k3 ?J4k4 ?_; (case J4k1 => k_asm); (case J4k2 => k_asm); (case J4k3 => decide); (case J4k4 => exact PyProof.noPylong_of_log2 (by decide +kernel)); intro D' h' F' N' l1; (try k_lt l1)))
  k_with "execs cons" => (k_here; (with_reducible show wpAny _ _ _ _ _ (Shared.mk _ _ _ (_ + 1 + 1 + 1) _)); (with_reducible refine JB.gen_toks ?_); intro tk)
  k_with "execs nil" => (k_here; (with_reducible show wpAny _ _ _ _ _ (Shared.mk _ _ _ (_ + 1 + 1 + 1) _)); (with_reducible refine JB.gen_toks ?_); intro tk)
  k_with "call ref" => (k_here; (with_reducible show wpAny _ _ (call (Value.ref 71) _) _ _ _); k_dflt (refine' JB.C_year_months _ _ _ ?J7k1 ?J7k2 ?J7k3 ?J7k4 ?J7k5 ?J7kK ?J7kp ?J7kd ?J7ku ?_; (case J7k1 => first | k_asm | ktn_no "jb: the frames below"); (case J7k2 => first | k_asm | ktn_no "jb: the frame"); (case J7k3 => first | k_asm | ktn_no "jb: the written part"); (case J7k4 => first | k_asm | ktn_no "jb: the ledger"); (case J7k5 => first | k_asm | ktn_no "jb: the top's facts"); (case J7kK => first | exact rfl | assumption | ktn_no "jb: the caller is no def"); (case J7kd => first | ktr_room | ktn_no "jb: the frames' room"); (case J7ku => first | ktr_units | ktn_no "jb: the C units"); (case J7kp => first | (fail) | trivial | ((try dsimp only); first | with_reducible assumption | omega) | ktn_no "jb: what the claim asks"); intro t9 h9 tk9 F9 N9; (try dsimp only); (try k_fold)); walk_say "CONTRACT year_months")
  k_with "call ref" => (k_here; (with_reducible show wpAny _ _ (call (Value.ref 78) _) _ _ _); k_dflt (refine' JB.C_delay_1 _ _ _ ?J8k1 ?J8k2 ?J8k3 ?J8k4 ?J8k5 ?J8kK ?J8kp ?J8kd ?J8ku ?_; (case J8k1 => first | k_asm | ktn_no "jb: the frames below"); (case J8k2 => first | k_asm | ktn_no "jb: the frame"); (case J8k3 => first | k_asm | ktn_no "jb: the written part"); (case J8k4 => first | k_asm | ktn_no "jb: the ledger"); (case J8k5 => first | k_asm | ktn_no "jb: the top's facts"); (case J8kK => first | exact rfl | assumption | ktn_no "jb: the caller is no def"); (case J8kd => first | ktr_room | ktn_no "jb: the frames' room"); (case J8ku => first | ktr_units | ktn_no "jb: the C units"); (case J8kp => first | (fail) | trivial | ((try dsimp only); first | with_reducible assumption | omega) | ktn_no "jb: what the claim asks"); intro t9 h9 tk9 F9 N9; (try dsimp only); (try k_fold)); walk_say "CONTRACT delay_1")
  k_with "call ref" => (k_here; (with_reducible show wpAny _ _ (call (Value.ref 85) _) _ _ _); k_dflt (refine' JB.C_delay_2 _ _ _ ?J9k1 ?J9k2 ?J9k3 ?J9k4 ?J9k5 ?J9kK ?J9kp ?J9kd ?J9ku ?_; (case J9k1 => first | k_asm | ktn_no "jb: the frames below"); (case J9k2 => first | k_asm | ktn_no "jb: the frame"); (case J9k3 => first | k_asm | ktn_no "jb: the written part"); (case J9k4 => first | k_asm | ktn_no "jb: the ledger"); (case J9k5 => first | k_asm | ktn_no "jb: the top's facts"); (case J9kK => first | exact rfl | assumption | ktn_no "jb: the caller is no def"); (case J9kd => first | ktr_room | ktn_no "jb: the frames' room"); (case J9ku => first | ktr_units | ktn_no "jb: the C units"); (case J9kp => first | (fail) | trivial | ((try dsimp only); first | with_reducible assumption | omega) | ktn_no "jb: what the claim asks"); intro t9 h9 tk9 F9 N9; (try dsimp only); (try k_fold)); walk_say "CONTRACT delay_2")
  k_with "call ref" => (k_here; (with_reducible show wpAny _ _ (call (Value.ref 28) _) _ _ _); k_dflt (refine' JB.C_midnight _ _ _ ?J10k1 ?J10k2 ?J10k3 ?J10k4 ?J10k5 ?J10kK ?J10kp ?J10kd ?J10ku ?_; (case J10k1 => first | k_asm | ktn_no "jb: the frames below"); (case J10k2 => first | k_asm | ktn_no "jb: the frame"); (case J10k3 => first | k_asm | ktn_no "jb: the written part"); (case J10k4 => first | k_asm | ktn_no "jb: the ledger"); (case J10k5 => first | k_asm | ktn_no "jb: the top's facts"); (case J10kK => first | exact rfl | assumption | ktn_no "jb: the caller is no def"); (case J10kd => first | ktr_room | ktn_no "jb: the frames' room"); (case J10ku => first | ktr_units | ktn_no "jb: the C units"); (case J10kp => first | (fail) | trivial | ((try dsimp only); first | with_reducible assumption | omega) | ktn_no "jb: what the claim asks"); intro t9 h9 tk9 F9 N9; (try dsimp only); (try k_fold)); walk_say "CONTRACT midnight")
  k_with "call ref" => (k_here; (with_reducible show wpAny _ _ (call (Value.ref 106) _) _ _ _); k_dflt (refine' JB.C_month_days _ _ _ _ _ ?J11k1 ?J11k2 ?J11k3 ?J11k4 ?J11k5 ?J11kK ?J11kp ?J11kd ?J11ku ?_; (case J11k1 => first | k_asm | ktn_no "jb: the frames below"); (case J11k2 => first | k_asm | ktn_no "jb: the frame"); (case J11k3 => first | k_asm | ktn_no "jb: the written part"); (case J11k4 => first | k_asm | ktn_no "jb: the ledger"); (case J11k5 => first | k_asm | ktn_no "jb: the top's facts"); (case J11kK => first | exact rfl | assumption | ktn_no "jb: the caller is no def"); (case J11kd => first | ktr_room | ktn_no "jb: the frames' room"); (case J11ku => first | ktr_units | ktn_no "jb: the C units"); (case J11kp => first | (fail) | trivial | ((try dsimp only); first | with_reducible assumption | omega) | ktn_no "jb: what the claim asks"); intro t9 h9 tk9 F9 N9; (try dsimp only); (try k_fold)); walk_say "CONTRACT month_days")
  dsimp only [JCl, RVal, RTup]
  k_fill
  intros
  rename_i hpre hroom hunits hret
  have hM := hmonths_bd y
  obtain ⟨hp1, hp2⟩ := hpre
  by_cases hm : m < 7
  all_goals (
  refine wpAny_call ?_
  k_dflt cell_enter
  k_steps)
  skip
  all_goals ((rename PyProof.Rows.Fr _ _ _ _ => jF); (rename PyProof.Rows.News _ _ _ _ => jN); refine cb_retI hret ?_ jF (by first | exact jN | exact cb_drop jN (by intro p hp; repeat (first | exact hp | apply List.mem_cons_of_mem))))
  all_goals (law_clear; (first | exact hto_lo (by assumption) | exact hto_hi (by assumption)))
set_option maxRecDepth 100000 in
set_option maxHeartbeats 8000000 in
theorem C_law_long (w : World) (y : Int) (t_y : Tok) : JCl w 229 [.int y t_y] 2 (True) (RVal fun _ => .bool (llong y)) := by
  k_with_none
  w_top off
  k_with "eval Name" => (k_here; (with_reducible show wpAny _ _ (eval (Expr.Name _ _) (envOf _ _ _ _ _)) _ _ _); (with_reducible rename Fr _ _ _ _ => kF); k_dflt (refine' name_K kF ?J1k1 ?J1k2 ?J1k3 ?_; (case J1k1 => k_asm); (case J1k2 => k_asm); (case J1k3 => k_is); k_whole))
  k_with "storeName" => (k_here; (with_reducible show wpAny _ _ (storeName _ _ (Value.int _ _)) _ _ _); k_dflt (refine' JB.store_int ?J2F ?J2N ?_ ?J2a ?J2b; (case J2F => k_asm); (case J2N => k_asm); (case J2a => rfl); (case J2b => rfl); k_whole; intro t h' F' N'; (try k_sweep)))
  k_with "eval Call" => (k_here; (with_reducible show wpAny _ _ (eval (Expr.Call (Expr.Name _ _) _ [] _) _) _ _ _); refine PyProof.Rows.Call_ ?_)
  k_with "call builtin:divmod" => (k_here; k_dflt (refine' JB.divmod_J ?J4k1 ?J4k2 ?J4k3 ?J4k4 ?_; (case J4k1 => k_asm); (case J4k2 => k_asm); (case J4k3 => decide); (case J4k4 => exact PyProof.noPylong_of_log2 (by decide +kernel)); intro D' h' F' N' l1; (try k_lt l1)))
  k_with "execs cons" => (k_here; (with_reducible show wpAny _ _ _ _ _ (Shared.mk _ _ _ (_ + 1 + 1 + 1) _)); (with_reducible refine JB.gen_toks ?_); intro tk)
  k_with "execs nil" => (k_here; (with_reducible show wpAny _ _ _ _ _ (Shared.mk _ _ _ (_ + 1 + 1 + 1) _)); (with_reducible refine JB.gen_toks ?_); intro tk)
  dsimp only [JCl, RVal, RTup]
  k_fill
  intros
  rename_i hpre hroom hunits hret
  refine wpAny_call ?_
  k_dflt cell_enter
  k_steps
  skip
  all_goals ((rename PyProof.Rows.Fr _ _ _ _ => jF); (rename PyProof.Rows.News _ _ _ _ => jN); refine cb_retB hret ?_ jF (by first | exact jN | exact cb_drop jN (by intro p hp; repeat (first | exact hp | apply List.mem_cons_of_mem))))
  all_goals (law_clear; (exact llong_any y))
set_option maxRecDepth 100000 in
set_option maxHeartbeats 8000000 in
theorem C_law_new_year (w : World) (y : Int) (t_y : Tok) : JCl w 234 [.int y t_y] 3 (True) (RVal fun t => .int (lny y) t) := by
  k_with_none
  w_top off
  k_with "eval Name" => (k_here; (with_reducible show wpAny _ _ (eval (Expr.Name _ _) (envOf _ _ _ _ _)) _ _ _); (with_reducible rename Fr _ _ _ _ => kF); k_dflt (refine' name_K kF ?J1k1 ?J1k2 ?J1k3 ?_; (case J1k1 => k_asm); (case J1k2 => k_asm); (case J1k3 => k_is); k_whole))
  k_with "storeName" => (k_here; (with_reducible show wpAny _ _ (storeName _ _ (Value.int _ _)) _ _ _); k_dflt (refine' JB.store_int ?J2F ?J2N ?_ ?J2a ?J2b; (case J2F => k_asm); (case J2N => k_asm); (case J2a => rfl); (case J2b => rfl); k_whole; intro t h' F' N'; (try k_sweep)))
  k_with "eval Call" => (k_here; (with_reducible show wpAny _ _ (eval (Expr.Call (Expr.Name _ _) _ [] _) _) _ _ _); refine PyProof.Rows.Call_ ?_)
  k_with "call builtin:divmod" => (k_here; k_dflt (refine' JB.divmod_J ?J4k1 ?J4k2 ?J4k3 ?J4k4 ?_; (case J4k1 => k_asm); (case J4k2 => k_asm); (case J4k3 => decide); (case J4k4 => exact PyProof.noPylong_of_log2 (by decide +kernel)); intro D' h' F' N' l1; (try k_lt l1)))
  k_with "execs cons" => (k_here; (with_reducible show wpAny _ _ _ _ _ (Shared.mk _ _ _ (_ + 1 + 1 + 1) _)); (with_reducible refine JB.gen_toks ?_); intro tk)
  k_with "execs nil" => (k_here; (with_reducible show wpAny _ _ _ _ _ (Shared.mk _ _ _ (_ + 1 + 1 + 1) _)); (with_reducible refine JB.gen_toks ?_); intro tk)
  k_with "call ref" => (k_here; (with_reducible show wpAny _ _ (call (Value.ref 229) _) _ _ _); k_dflt (refine' JB.C_law_long _ _ _ ?J7k1 ?J7k2 ?J7k3 ?J7k4 ?J7k5 ?J7kK ?J7kp ?J7kd ?J7ku ?_; (case J7k1 => first | k_asm | ktn_no "jb: the frames below"); (case J7k2 => first | k_asm | ktn_no "jb: the frame"); (case J7k3 => first | k_asm | ktn_no "jb: the written part"); (case J7k4 => first | k_asm | ktn_no "jb: the ledger"); (case J7k5 => first | k_asm | ktn_no "jb: the top's facts"); (case J7kK => first | exact rfl | assumption | ktn_no "jb: the caller is no def"); (case J7kd => first | ktr_room | ktn_no "jb: the frames' room"); (case J7ku => first | ktr_units | ktn_no "jb: the C units"); (case J7kp => first | (fail) | trivial | ((try dsimp only); first | with_reducible assumption | omega) | ktn_no "jb: what the claim asks"); intro t9 h9 tk9 F9 N9; (try dsimp only); (try k_fold)); walk_say "CONTRACT law_long")
  k_with "eval ListComp" => (k_here; (with_reducible show wpAny _ _ (eval (Expr.ListComp (Expr.Name _ _) [⟨_, Expr.Call (Expr.Name (Str.ofString "_law_long_years") _) _ _ _, _, _⟩] _ _) _) _ _ _); k_dflt (refine PyProof.Rows.LCt.ListComp_T (F₀ := by k_asm) (by with_unfolding_all rfl) (by decide) (by rfl) (by decide) (by rfl) ?_))
  k_with "CompSrcT" => (k_here; k_dflt (refine PyProof.Rows.LCt.CompSrcT.ledger (by rfl) (by k_asm) (by k_asm) (by k_mem) (by first | size_fits | exact Nat.le_of_ble_eq_true rfl) ?_; intro g'; (refine' JB.comp_le (ns := [3, 6, 8, 11, 14, 17, 19]) ?J9hc ?J9hm ?J9hd (fun _ => rfl) (fun _ => rfl) (fun _ => rfl) ?J9hP ?J9hS (JB.long_len _) ?_ 7 0 [] rfl rfl); (case J9hc => exact rfl); (case J9hm => k_mem); (case J9hd => assumption); (case J9hP => exact JB.ints7); (case J9hS => exact Or.inr ⟨_, by k_mem, rfl, _, rfl⟩)); intro ys hys; walk_say "COUNTED")
  k_with "call builtin:len" => (k_here; (with_reducible show wpAny _ _ (call (Value.builtin "len") [Value.ref _]) _ _ _); k_dflt (refine' JB.len_J ?J10k1 ?J10k2 ?J10k3 (JB.lcount_bd _) ?_; (case J10k1 => k_asm); (case J10k2 => k_mem); (case J10k3 => with_reducible assumption)))
  k_with "ite" => (k_here; k_openite; first | (refine ite_neg (by (law_clear; (try simp only [decide_eq_true_eq, beq_iff_eq]); omega)) ?_; walk_say "PRUNED BY OMEGA") | (refine ite_pos (by (law_clear; (try simp only [decide_eq_true_eq, beq_iff_eq]); omega)) ?_; walk_say "PRUNED BY OMEGA"))
  k_with "eval Name" => (k_here; (with_reducible show wpAny _ _ (eval (Expr.Name (Str.ofString "day") _) _) _ _ _); k_dflt (refine' PyProof.Rows.ld ?J12k1 ?J12k2 ?_; (case J12k1 => k_asm); (case J12k2 => assumption); (all_goals (try first | exact Str.ofString "" | exact Value.none | exact (0 : Nat)))))
  k_with "loadName" => (k_here; (with_reducible show wpAny _ _ (loadName _ (Str.ofString "day")) _ _ _); k_dflt (refine' PyProof.Rows.ldn ?J13k1 ?J13k2 ?_; (case J13k1 => k_asm); (case J13k2 => assumption); (all_goals (try first | exact Str.ofString "" | exact Value.none | exact (0 : Nat)))))
  k_with "eval Name" => (k_here; (with_reducible show wpAny _ _ (eval (Expr.Name (Str.ofString "parts") _) _) _ _ _); k_dflt (refine' PyProof.Rows.ld ?J14k1 ?J14k2 ?_; (case J14k1 => k_asm); (case J14k2 => assumption); (all_goals (try first | exact Str.ofString "" | exact Value.none | exact (0 : Nat)))))
  k_with "loadName" => (k_here; (with_reducible show wpAny _ _ (loadName _ (Str.ofString "parts")) _ _ _); k_dflt (refine' PyProof.Rows.ldn ?J15k1 ?J15k2 ?_; (case J15k1 => k_asm); (case J15k2 => assumption); (all_goals (try first | exact Str.ofString "" | exact Value.none | exact (0 : Nat)))))
  k_with "eval Name" => (k_here; (with_reducible show wpAny _ _ (eval (Expr.Name (Str.ofString "year") _) _) _ _ _); k_dflt (refine' PyProof.Rows.ld ?J16k1 ?J16k2 ?_; (case J16k1 => k_asm); (case J16k2 => assumption); (all_goals (try first | exact Str.ofString "" | exact Value.none | exact (0 : Nat)))))
  k_with "loadName" => (k_here; (with_reducible show wpAny _ _ (loadName _ (Str.ofString "year")) _ _ _); k_dflt (refine' PyProof.Rows.ldn ?J17k1 ?J17k2 ?_; (case J17k1 => k_asm); (case J17k2 => assumption); (all_goals (try first | exact Str.ofString "" | exact Value.none | exact (0 : Nat)))))
  dsimp only [JCl, RVal, RTup]
  k_fill
  intros
  rename_i hpre hroom hunits hret
  refine wpAny_call ?_
  k_dflt (refine' code_defC ?k1 ?k2 ?k3 ?k4 ?k5 ?kA ?kF ?kK ?k6 ?k7 ?k8 ?k9 ?kB ?kD ?_ ?c2 ?c3 ?c4; (case kA => exact rfl); (case kF => exact rfl); (case kK => assumption); (case k1 => k_asm); (case k2 => k_asm); (case k3 => k_asm); (case k4 => k_asm); (case k5 => k_asm); (case k6 => k_is); (case k7 => k_is); (case k8 => ktr_room); (case k9 => exact BindsTo.of_eq rfl); (case kB => exact rfl); (case kD => decide +kernel); (case c2 => exact rfl); (case c3 => exact rfl); (case c4 => exact rfl); k_whole; intro g' L' h' tk' cells' FG' F' N' Y' B' X' T' l1; (try k_lt l1); k_cells Y'; (try simp only [List.cons_append, List.nil_append] at N'); (try dsimp only); (try k_lift B'); (try k_fold))
  repeat' ((fail_if_success (with_reducible show wpAny _ _ (execs (Stmt.Assign [Expr.Tuple _ _ _] _ _ :: Stmt.If _ _ _ _ :: _) _) _ _ _)); (first | (k_unfold; (try dsimp only)) | (k_end; wrow_close) | walk1 | (dsimp only; walk1) | (leave1; walk_say "STEP leave1"; try dsimp only) | fail "no step"))
  (rename PyProof.Rows.Fr _ _ _ _ => jF)
  (rename PyProof.Rows.News _ _ _ _ => jN)
  refine execs_cut1 (GCutS jF jN (fun m2 => (∃ v t, m2 (Str.ofString "day") = some (.int v t) ∧ v = lday y) ∧ (∃ v t, m2 (Str.ofString "parts") = some (.int v t) ∧ v = lparts y) ∧ (∃ t, m2 (Str.ofString "year") = some (.int y t)))) ?_ ?_
  · k_steps
    all_goals (try exact trivial)
    all_goals ((rename PyProof.Rows.Fr _ _ _ _ => jF9); (rename PyProof.Rows.News _ _ _ _ => jN9); exact ⟨_, _, _, rfl, jF9, news_tail jN9, ⟨_, _, rfl, day_a rfl⟩, ⟨_, _, rfl, parts_a rfl⟩, ⟨_, rfl⟩⟩)
  intro s1 hP1
  obtain ⟨h1, tk1, m1, hs1, F1, N1, ⟨vD1, tD1, gD1, eD1⟩, ⟨vP1, tP1, gP1, eP1⟩, ⟨tY1, gY1⟩⟩ := hP1
  subst hs1
  subst eD1
  subst eP1
  clear jF jN
  (rename PyProof.Rows.Fr _ _ _ _ => jF)
  (rename PyProof.Rows.News _ _ _ _ => jN)
  refine execs_cut1 (GCutS jF jN (fun m2 => ∃ v t, m2 (Str.ofString "day") = some (.int v t) ∧ v = lday1 y)) ?_ ?_
  · k_steps
    all_goals ((rename PyProof.Rows.Fr _ _ _ _ => jF9); (rename PyProof.Rows.News _ _ _ _ => jN9); first | refine ⟨_, _, _, rfl, jF9, jN9, ⟨_, _, gD1, ?_⟩⟩ | refine ⟨_, _, _, rfl, jF9, jN9, ⟨_, _, rfl, ?_⟩⟩)
    all_goals (first | exact ld_1 (by with_reducible assumption) | exact ld_2 (by with_reducible assumption) (by with_reducible assumption) (by with_reducible assumption) | exact ld_3 (by with_reducible assumption) (by with_reducible assumption) (by with_reducible assumption) (by with_reducible assumption) | exact ld_4 (by with_reducible assumption) (by with_reducible assumption) (by with_reducible assumption) | exact ld_5 (by with_reducible assumption) (by with_reducible assumption) (by with_reducible assumption) (by with_reducible assumption) (by with_reducible assumption) | exact ld_6 (by with_reducible assumption) (by with_reducible assumption) (by with_reducible assumption) | exact ld_7 (by with_reducible assumption) (by with_reducible assumption) (by with_reducible assumption) | exact ld_8 (by with_reducible assumption) (by with_reducible assumption) (by with_reducible assumption))
  intro s2 hP
  obtain ⟨h2, tk2, m2, hs2, F2, N2, ⟨vD, tD, gD, eD⟩⟩ := hP
  subst hs2
  subst eD
  clear jF jN
  k_steps
  skip
  all_goals ((rename PyProof.Rows.Fr _ _ _ _ => jF); (rename PyProof.Rows.News _ _ _ _ => jN); refine cb_retI hret ?_ jF (by first | exact jN | exact cb_drop jN (by intro p hp; repeat (first | exact hp | apply List.mem_cons_of_mem))))
  all_goals (law_clear; (first | exact lny_1 (by with_reducible assumption) | exact lny_2 (by with_reducible assumption)))
set_option maxRecDepth 100000 in
set_option maxHeartbeats 8000000 in
theorem C_law_first (w : World) (y : Int) (t_y : Tok) : JCl w 248 [.int y t_y] 1 (True) (RVal fun t => .int (lfirst y) t) := by
  k_with_none
  w_top off
  k_with "eval Name" => (k_here; (with_reducible show wpAny _ _ (eval (Expr.Name _ _) (envOf _ _ _ _ _)) _ _ _); (with_reducible rename Fr _ _ _ _ => kF); k_dflt (refine' name_K kF ?J1k1 ?J1k2 ?J1k3 ?_; (case J1k1 => k_asm); (case J1k2 => k_asm); (case J1k3 => k_is); k_whole))
  k_with "storeName" => (k_here; (with_reducible show wpAny _ _ (storeName _ _ (Value.int _ _)) _ _ _); k_dflt (refine' JB.store_int ?J2F ?J2N ?_ ?J2a ?J2b; (case J2F => k_asm); (case J2N => k_asm); (case J2a => rfl); (case J2b => rfl); k_whole; intro t h' F' N'; (try k_sweep)))
  k_with "eval Call" => (k_here; (with_reducible show wpAny _ _ (eval (Expr.Call (Expr.Name _ _) _ [] _) _) _ _ _); refine PyProof.Rows.Call_ ?_)
  k_with "call builtin:divmod" => (k_here; k_dflt (refine' JB.divmod_J ?J4k1 ?J4k2 ?J4k3 ?J4k4 ?_; (case J4k1 => k_asm); (case J4k2 => k_asm); (case J4k3 => decide); (case J4k4 => exact PyProof.noPylong_of_log2 (by decide +kernel)); intro D' h' F' N' l1; (try k_lt l1)))
  k_with "execs cons" => (k_here; (with_reducible show wpAny _ _ _ _ _ (Shared.mk _ _ _ (_ + 1 + 1 + 1) _)); (with_reducible refine JB.gen_toks ?_); intro tk)
  k_with "execs nil" => (k_here; (with_reducible show wpAny _ _ _ _ _ (Shared.mk _ _ _ (_ + 1 + 1 + 1) _)); (with_reducible refine JB.gen_toks ?_); intro tk)
  dsimp only [JCl, RVal, RTup]
  k_fill
  intros
  rename_i hpre hroom hunits hret
  refine wpAny_call ?_
  k_dflt cell_enter
  k_steps
  skip
  all_goals ((rename PyProof.Rows.Fr _ _ _ _ => jF); (rename PyProof.Rows.News _ _ _ _ => jN); refine cb_retI hret ?_ jF (by first | exact jN | exact cb_drop jN (by intro p hp; repeat (first | exact hp | apply List.mem_cons_of_mem))))
  all_goals (law_clear; ((simp only [fm_nn _ (show (0:Int) ≤ 4 by decide), fm_nn _ (show (0:Int) ≤ 7 by decide), fm_nn _ (show (0:Int) ≤ 10 by decide), fm_nn _ (show (0:Int) ≤ 19 by decide), fm_nn _ (show (0:Int) ≤ 100 by decide), fm_nn _ (show (0:Int) ≤ 400 by decide), fm_nn _ (show (0:Int) ≤ 25920 by decide), fd_nn _ (show (0:Int) ≤ 100 by decide), fd_nn _ (show (0:Int) ≤ 4 by decide), fd_nn _ (show (0:Int) ≤ 400 by decide)]; unfold lfirst; rfl)))
set_option maxRecDepth 100000 in
set_option maxHeartbeats 8000000 in
theorem C_law_number (w : World) (y : Int) (t_y : Tok) (m : Int) (t_m : Tok) (d : Int) (t_d : Tok) : JCl w 241 [.int y t_y, .int m t_m, .int d t_d] 4 (True) (RVal fun t => .int (lnum y m d) t) := by
  k_with_none
  w_top off
  k_with "eval Name" => (k_here; (with_reducible show wpAny _ _ (eval (Expr.Name _ _) (envOf _ _ _ _ _)) _ _ _); (with_reducible rename Fr _ _ _ _ => kF); k_dflt (refine' name_K kF ?J1k1 ?J1k2 ?J1k3 ?_; (case J1k1 => k_asm); (case J1k2 => k_asm); (case J1k3 => k_is); k_whole))
  k_with "storeName" => (k_here; (with_reducible show wpAny _ _ (storeName _ _ (Value.int _ _)) _ _ _); k_dflt (refine' JB.store_int ?J2F ?J2N ?_ ?J2a ?J2b; (case J2F => k_asm); (case J2N => k_asm); (case J2a => rfl); (case J2b => rfl); k_whole; intro t h' F' N'; (try k_sweep)))
  k_with "eval Call" => (k_here; (with_reducible show wpAny _ _ (eval (Expr.Call (Expr.Name _ _) _ [] _) _) _ _ _); refine PyProof.Rows.Call_ ?_)
  k_with "call builtin:divmod" => (k_here; k_dflt (refine' JB.divmod_J ?J4k1 ?J4k2 ?J4k3 ?J4k4 ?_; (case J4k1 => k_asm); (case J4k2 => k_asm); (case J4k3 => decide); (case J4k4 => exact PyProof.noPylong_of_log2 (by decide +kernel)); intro D' h' F' N' l1; (try k_lt l1)))
  k_with "execs cons" => (k_here; (with_reducible show wpAny _ _ _ _ _ (Shared.mk _ _ _ (_ + 1 + 1 + 1) _)); (with_reducible refine JB.gen_toks ?_); intro tk)
  k_with "execs nil" => (k_here; (with_reducible show wpAny _ _ _ _ _ (Shared.mk _ _ _ (_ + 1 + 1 + 1) _)); (with_reducible refine JB.gen_toks ?_); intro tk)
  k_with "call ref" => (k_here; (with_reducible show wpAny _ _ (call (Value.ref 229) _) _ _ _); k_dflt (refine' JB.C_law_long _ _ _ ?J7k1 ?J7k2 ?J7k3 ?J7k4 ?J7k5 ?J7kK ?J7kp ?J7kd ?J7ku ?_; (case J7k1 => first | k_asm | ktn_no "jb: the frames below"); (case J7k2 => first | k_asm | ktn_no "jb: the frame"); (case J7k3 => first | k_asm | ktn_no "jb: the written part"); (case J7k4 => first | k_asm | ktn_no "jb: the ledger"); (case J7k5 => first | k_asm | ktn_no "jb: the top's facts"); (case J7kK => first | exact rfl | assumption | ktn_no "jb: the caller is no def"); (case J7kd => first | ktr_room | ktn_no "jb: the frames' room"); (case J7ku => first | ktr_units | ktn_no "jb: the C units"); (case J7kp => first | (fail) | trivial | ((try dsimp only); first | with_reducible assumption | omega) | ktn_no "jb: what the claim asks"); intro t9 h9 tk9 F9 N9; (try dsimp only); (try k_fold)); walk_say "CONTRACT law_long")
  k_with "call ref" => (k_here; (with_reducible show wpAny _ _ (call (Value.ref 234) _) _ _ _); k_dflt (refine' JB.C_law_new_year _ _ _ ?J8k1 ?J8k2 ?J8k3 ?J8k4 ?J8k5 ?J8kK ?J8kp ?J8kd ?J8ku ?_; (case J8k1 => first | k_asm | ktn_no "jb: the frames below"); (case J8k2 => first | k_asm | ktn_no "jb: the frame"); (case J8k3 => first | k_asm | ktn_no "jb: the written part"); (case J8k4 => first | k_asm | ktn_no "jb: the ledger"); (case J8k5 => first | k_asm | ktn_no "jb: the top's facts"); (case J8kK => first | exact rfl | assumption | ktn_no "jb: the caller is no def"); (case J8kd => first | ktr_room | ktn_no "jb: the frames' room"); (case J8ku => first | ktr_units | ktn_no "jb: the C units"); (case J8kp => first | (fail) | trivial | ((try dsimp only); first | with_reducible assumption | omega) | ktn_no "jb: what the claim asks"); intro t9 h9 tk9 F9 N9; (try dsimp only); (try k_fold)); walk_say "CONTRACT law_new_year")
  k_with "eval Name" => (k_here; (with_reducible show wpAny _ _ (eval (Expr.Name (Str.ofString "first") _) _) _ _ _); k_dflt (refine' PyProof.Rows.ld ?J9k1 ?J9k2 ?_; (case J9k1 => k_asm); (case J9k2 => assumption)))
  k_with "loadName" => (k_here; (with_reducible show wpAny _ _ (loadName _ (Str.ofString "first")) _ _ _); k_dflt (refine' PyProof.Rows.ldn ?J10k1 ?J10k2 ?_; (case J10k1 => k_asm); (case J10k2 => assumption)))
  k_with "eval Name" => (k_here; (with_reducible show wpAny _ _ (eval (Expr.Name (Str.ofString "month") _) _) _ _ _); k_dflt (refine' PyProof.Rows.ld ?J11k1 ?J11k2 ?_; (case J11k1 => k_asm); (case J11k2 => assumption)))
  k_with "loadName" => (k_here; (with_reducible show wpAny _ _ (loadName _ (Str.ofString "month")) _ _ _); k_dflt (refine' PyProof.Rows.ldn ?J12k1 ?J12k2 ?_; (case J12k1 => k_asm); (case J12k2 => assumption)))
  k_with "eval Name" => (k_here; (with_reducible show wpAny _ _ (eval (Expr.Name (Str.ofString "day") _) _) _ _ _); k_dflt (refine' PyProof.Rows.ld ?J13k1 ?J13k2 ?_; (case J13k1 => k_asm); (case J13k2 => assumption)))
  k_with "loadName" => (k_here; (with_reducible show wpAny _ _ (loadName _ (Str.ofString "day")) _ _ _); k_dflt (refine' PyProof.Rows.ldn ?J14k1 ?J14k2 ?_; (case J14k1 => k_asm); (case J14k2 => assumption)))
  k_with "eval IfExp" => (k_here; (with_reducible show wpAny _ _ (eval (Expr.IfExp _ (Expr.Constant (Const.int _) _ _) (Expr.Constant (Const.int _) _ _) _) _) _ _ _); with_reducible refine JB.ifexp_int ?_)
  dsimp only [JCl, RVal, RTup]
  k_fill
  intros
  rename_i hpre hroom hunits hret
  refine wpAny_call ?_
  k_dflt cell_enter
  repeat' ((fail_if_success (with_reducible show wpAny _ _ (exec (Stmt.For _ _ _ _ _) _) _ _ _)); (first | (k_unfold; (try dsimp only)) | (k_end; wrow_close) | walk1 | (dsimp only; walk1) | (leave1; walk_say "STEP leave1"; try dsimp only) | fail "no step"))
  all_goals ((rename PyProof.Rows.Fr _ _ _ _ => jF); refine PySem.W.For_turns jF ?_)
  repeat' ((fail_if_success (with_reducible show wpAny _ _ (pyIter _) _ _ _)); (first | (k_unfold; (try dsimp only)) | (k_end; wrow_close) | walk1 | (dsimp only; walk1) | (leave1; walk_say "STEP leave1"; try dsimp only) | fail "no step"))
  all_goals ((rename PyProof.Rows.Fr _ _ _ _ => jF); (rename PyProof.Rows.News _ _ _ _ => jN); refine PySem.W.iter_listTurns rfl jF jN (.head _) rfl rfl ?_; intro I hI)
  all_goals first
    | (refine' num_loop2 (mo := m) (d := d) hI [(_, 7, 30), (_, 8, _), (_, 9, _), (_, 10, 29), (_, 11, 30), (_, 12, 30), (_, 13, 29), (_, 1, 30), (_, 2, 29), (_, 3, 30), (_, 4, 29), (_, 5, 30), (_, 6, 29)] ?hk ?hvs ?hg ?hp ?_ ?_; (case hvs => exact rfl); (case hk => k_subL); (case hg => exact ⟨⟨_, rfl⟩, ⟨_, rfl⟩, ⟨_, rfl⟩⟩); (case hp => repeat' (first | exact List.forall_mem_nil _ | (refine List.forall_mem_cons.mpr ⟨⟨_, _, _, by k_mem⟩, ?_⟩))))
    | (refine' num_loop2 (mo := m) (d := d) hI [(_, 7, 30), (_, 8, _), (_, 9, _), (_, 10, 29), (_, 11, 30), (_, 12, 29), (_, 1, 30), (_, 2, 29), (_, 3, 30), (_, 4, 29), (_, 5, 30), (_, 6, 29)] ?hk ?hvs ?hg ?hp ?_ ?_; (case hvs => exact rfl); (case hk => k_subL); (case hg => exact ⟨⟨_, rfl⟩, ⟨_, rfl⟩, ⟨_, rfl⟩⟩); (case hp => repeat' (first | exact List.forall_mem_nil _ | (refine List.forall_mem_cons.mpr ⟨⟨_, _, _, by k_mem⟩, ?_⟩))))
  all_goals (repeat (rename (@LT.lt Nat _ _ _) ∧ _ => hx9; clear hx9))
  all_goals first
    | (intro nw T a l ta tl k h9 tk9 m9 f9 Q9 F9 N9 hT g hb hn
       obtain ⟨⟨t1, g1⟩, ⟨t2, g2⟩, ⟨t3, g3⟩⟩ := g
       have hTup : IsTup h9 T #[.int a ta, .int l tl] := ⟨_, (N9 _ hT).1, rfl, _, rfl⟩
       k_steps)
    | (intro h9 tk9 m9 F9 N9 g
       obtain ⟨⟨t1, g1⟩, ⟨t2, g2⟩, ⟨t3, g3⟩⟩ := g
       k_steps)
  all_goals (try dsimp only)
  all_goals first
    | ((rename PyProof.Rows.Fr _ _ _ _ => jF); (rename PyProof.Rows.News _ _ _ _ => jN); exact hb (by first | assumption | omega) _ _ _ jF jN ⟨⟨_, g1⟩, ⟨_, g2⟩, ⟨_, g3⟩⟩)
    | ((rename PyProof.Rows.Fr _ _ _ _ => jF); (rename PyProof.Rows.News _ _ _ _ => jN); exact hn (by first | assumption | omega) _ _ _ jF jN ⟨⟨_, rfl⟩, ⟨_, g2⟩, ⟨_, g3⟩⟩)
    | skip
  skip
  all_goals ((rename PyProof.Rows.Fr _ _ _ _ => jF); (rename PyProof.Rows.News _ _ _ _ => jN); refine cb_retI hret ?_ jF (by first | exact jN | exact cb_drop jN (by intro p hp; repeat (first | exact hp | apply List.mem_cons_of_mem))))
  all_goals (law_clear; ((try simp only [fm_nn _ (show (0:Int) ≤ 10 by decide)] at *); first | (exfalso; omega) | (unfold lnum lpairs lspan pick; simp [*]; done)))
set_option maxRecDepth 100000 in
set_option maxHeartbeats 8000000 in
theorem C_law_date (w : World) (j : Int) (t_j : Tok) : JCl w 255 [.int j t_j] 2 (True) (RTup (fy j) (fm j) (fd j)) := by
  k_with_none
  w_top off
  k_with "eval Name" => (k_here; (with_reducible show wpAny _ _ (eval (Expr.Name _ _) (envOf _ _ _ _ _)) _ _ _); (with_reducible rename Fr _ _ _ _ => kF); k_dflt (refine' name_K kF ?J1k1 ?J1k2 ?J1k3 ?_; (case J1k1 => k_asm); (case J1k2 => k_asm); (case J1k3 => k_is); k_whole))
  k_with "storeName" => (k_here; (with_reducible show wpAny _ _ (storeName _ _ (Value.int _ _)) _ _ _); k_dflt (refine' JB.store_int ?J2F ?J2N ?_ ?J2a ?J2b; (case J2F => k_asm); (case J2N => k_asm); (case J2a => rfl); (case J2b => rfl); k_whole; intro t h' F' N'; (try k_sweep)))
  k_with "eval Call" => (k_here; (with_reducible show wpAny _ _ (eval (Expr.Call (Expr.Name _ _) _ [] _) _) _ _ _); refine PyProof.Rows.Call_ ?_)
  k_with "call builtin:divmod" => (k_here; k_dflt (refine' JB.divmod_J ?J4k1 ?J4k2 ?J4k3 ?J4k4 ?_; (case J4k1 => k_asm); (case J4k2 => k_asm); (case J4k3 => decide); (case J4k4 => exact PyProof.noPylong_of_log2 (by decide +kernel)); intro D' h' F' N' l1; (try k_lt l1)))
  k_with "execs cons" => (k_here; (with_reducible show wpAny _ _ _ _ _ (Shared.mk _ _ _ (_ + 1 + 1 + 1) _)); (with_reducible refine JB.gen_toks ?_); intro tk)
  k_with "execs nil" => (k_here; (with_reducible show wpAny _ _ _ _ _ (Shared.mk _ _ _ (_ + 1 + 1 + 1) _)); (with_reducible refine JB.gen_toks ?_); intro tk)
  k_with "call ref" => (k_here; (with_reducible show wpAny _ _ (call (Value.ref 248) _) _ _ _); k_dflt (refine' JB.C_law_first _ _ _ ?J7k1 ?J7k2 ?J7k3 ?J7k4 ?J7k5 ?J7kK ?J7kp ?J7kd ?J7ku ?_; (case J7k1 => first | k_asm | ktn_no "jb: the frames below"); (case J7k2 => first | k_asm | ktn_no "jb: the frame"); (case J7k3 => first | k_asm | ktn_no "jb: the written part"); (case J7k4 => first | k_asm | ktn_no "jb: the ledger"); (case J7k5 => first | k_asm | ktn_no "jb: the top's facts"); (case J7kK => first | exact rfl | assumption | ktn_no "jb: the caller is no def"); (case J7kd => first | ktr_room | ktn_no "jb: the frames' room"); (case J7ku => first | ktr_units | ktn_no "jb: the C units"); (case J7kp => first | (fail) | trivial | ((try dsimp only); first | with_reducible assumption | omega) | ktn_no "jb: what the claim asks"); intro t9 h9 tk9 F9 N9; (try dsimp only); (try k_fold)); walk_say "CONTRACT law_first")
  k_with "eval Name" => (k_here; (with_reducible show wpAny _ _ (eval (Expr.Name (Str.ofString "year") _) _) _ _ _); k_dflt (refine' PyProof.Rows.ld ?J8k1 ?J8k2 ?_; (case J8k1 => k_asm); (case J8k2 => assumption)))
  k_with "loadName" => (k_here; (with_reducible show wpAny _ _ (loadName _ (Str.ofString "year")) _ _ _); k_dflt (refine' PyProof.Rows.ldn ?J9k1 ?J9k2 ?_; (case J9k1 => k_asm); (case J9k2 => assumption)))
  k_with "eval Name" => (k_here; (with_reducible show wpAny _ _ (eval (Expr.Name (Str.ofString "number") _) _) _ _ _); k_dflt (refine' PyProof.Rows.ld ?J10k1 ?J10k2 ?_; (case J10k1 => k_asm); (case J10k2 => assumption)))
  k_with "loadName" => (k_here; (with_reducible show wpAny _ _ (loadName _ (Str.ofString "number")) _ _ _); k_dflt (refine' PyProof.Rows.ldn ?J11k1 ?J11k2 ?_; (case J11k1 => k_asm); (case J11k2 => assumption)))
  k_with "eval Name" => (k_here; (with_reducible show wpAny _ _ (eval (Expr.Name (Str.ofString "day") _) _) _ _ _); k_dflt (refine' PyProof.Rows.ld ?J12k1 ?J12k2 ?_; (case J12k1 => k_asm); (case J12k2 => assumption)))
  k_with "loadName" => (k_here; (with_reducible show wpAny _ _ (loadName _ (Str.ofString "day")) _ _ _); k_dflt (refine' PyProof.Rows.ldn ?J13k1 ?J13k2 ?_; (case J13k1 => k_asm); (case J13k2 => assumption)))
  k_with "eval Name" => (k_here; (with_reducible show wpAny _ _ (eval (Expr.Name (Str.ofString "month") _) _) _ _ _); k_dflt (refine' PyProof.Rows.ld ?J14k1 ?J14k2 ?_; (case J14k1 => k_asm); (case J14k2 => assumption)))
  k_with "loadName" => (k_here; (with_reducible show wpAny _ _ (loadName _ (Str.ofString "month")) _ _ _); k_dflt (refine' PyProof.Rows.ldn ?J15k1 ?J15k2 ?_; (case J15k1 => k_asm); (case J15k2 => assumption)))
  k_with "eval Name" => (k_here; (with_reducible show wpAny _ _ (eval (Expr.Name (Str.ofString "lengths") _) _) _ _ _); k_dflt (refine' PyProof.Rows.ld ?J16k1 ?J16k2 ?_; (case J16k1 => k_asm); (case J16k2 => assumption)))
  k_with "loadName" => (k_here; (with_reducible show wpAny _ _ (loadName _ (Str.ofString "lengths")) _ _ _); k_dflt (refine' PyProof.Rows.ldn ?J17k1 ?J17k2 ?_; (case J17k1 => k_asm); (case J17k2 => assumption)))
  dsimp only [JCl, RVal, RTup]
  k_fill
  intros
  rename_i hpre hroom hunits hret
  refine wpAny_call ?_
  k_dflt cell_enter
  repeat' ((fail_if_success (with_reducible show wpAny _ _ (exec (Stmt.While _ _ _ _) _) _ _ _)); (first | (k_unfold; (try dsimp only)) | (k_end; wrow_close) | walk1 | (dsimp only; walk1) | (leave1; walk_say "STEP leave1"; try dsimp only) | fail "no step"))
  ((rename PyProof.Rows.Fr _ _ _ _ => jF); (rename PyProof.Rows.News _ _ _ _ => jN); refine While_J (WJ1 j) jF jN ⟨_, _, _, rfl, rfl, rfl⟩ ?_)
  intro n1 m1 h1 tk1 F1 N1 hJ
  obtain ⟨Y, tY, tN, gY, gN, hn⟩ := hJ
  repeat' ((fail_if_success (with_reducible show wpAny _ _ (exec (Stmt.While _ _ _ _) _) _ _ _)); (first | (k_unfold; (try dsimp only)) | (k_end; wrow_close) | walk1 | (dsimp only; walk1) | (leave1; walk_say "STEP leave1"; try dsimp only) | fail "no step"))
  all_goals (try dsimp only)
  all_goals first
    | ((rename PyProof.Rows.Fr _ _ _ _ => jF); (rename PyProof.Rows.News _ _ _ _ => jN); exact PyProof.Rows.WhileStep.intro jF jN (by rw [hn]; exact dec1 (by assumption)) ⟨rfl, _, _, _, rfl, gN, rfl⟩)
    | ((rename PyProof.Rows.Fr _ _ _ _ => jF); (rename PyProof.Rows.News _ _ _ _ => jN); (refine While_J (WJ2 j) jF jN ⟨_, _, _, gY, gN, by omega, rfl⟩ ?_))
  clear gY gN hn
  intro n2 m2 h2 tk2 F2 N2 hJ
  obtain ⟨Y2, tY2, tN2, gY, gN, hle, hn⟩ := hJ
  repeat' ((fail_if_success (with_reducible show wpAny _ _ (exec (Stmt.While _ _ _ _) _) _ _ _)); (first | (k_unfold; (try dsimp only)) | (k_end; wrow_close) | walk1 | (dsimp only; walk1) | (leave1; walk_say "STEP leave1"; try dsimp only) | fail "no step"))
  all_goals (try dsimp only)
  all_goals first
    | ((rename PyProof.Rows.Fr _ _ _ _ => jF); (rename PyProof.Rows.News _ _ _ _ => jN); exact PyProof.Rows.WhileStep.intro jF jN (by rw [hn]; exact inc2 (by assumption)) ⟨rfl, _, _, _, rfl, gN, (by assumption), rfl⟩)
    | (have hY : Y2 = fy j := fy_unique hle (by omega)
       subst hY
       ((rename PyProof.Rows.Fr _ _ _ _ => jF); (rename PyProof.Rows.News _ _ _ _ => jN); (refine While_J (WJ3 (j - lfirst (fy j) + 1) (lq (fy j))) jF jN ⟨rfl, rfl, 1, _, _, _, rfl, rfl, by omega, ⟨by decide, by decide, (Int.sub_zero _).symm⟩, rfl⟩ ?_)))
  intro n3 m3 h3 tk3 F3 N3 hJ
  obtain ⟨gL, gY3, M, D, tM, tD, gM, gD, hD, hM, hn3⟩ := hJ
  have gY4 : m3 (Str.ofString "year") = some (.int (fy j) tY2) := gY3.trans gY
  have hsp := lfirst_span (fy j)
  have hq := lq_bd (fy j)
  have hbd := (fy_bounds j).2
  clear gY3 hn hle
  have hM2 := hM.1
  have hM3 := hM.2.1
  k_steps
  all_goals (try dsimp only)
  all_goals first
    | ((rename PyProof.Rows.Fr _ _ _ _ => jF); (rename PyProof.Rows.News _ _ _ _ => jN); have st := len_step rfl rfl hsp hbd rfl hM (by with_reducible assumption); exact PyProof.Rows.WhileStep.intro jF jN (n' := _) (by rw [hn3]; exact st.2.2) ⟨rfl, gL, gY4.trans gY.symm, _, _, _, _, rfl, rfl, st.1, st.2.1, rfl⟩)
    | skip
  skip
  all_goals ((rename PyProof.Rows.Fr _ _ _ _ => jF); (rename PyProof.Rows.News _ _ _ _ => jN); refine tup_ret hret jF (by first | exact jN | exact news_skip jN) ?_ ?_ ?_)
  all_goals (law_clear; (first | rfl | exact (len_end rfl rfl hD hM (Int.not_lt.mp (by with_reducible assumption))).1 | exact (len_end rfl rfl hD hM (Int.not_lt.mp (by with_reducible assumption))).2))
set_option maxRecDepth 100000 in
set_option maxHeartbeats 8000000 in
theorem C_law_found1 (w : World) (y : Int) (t_y : Tok) (m : Int) (t_m : Tok) (d : Int) (t_d : Tok) : JCl w 262 [.int y t_y, .int m t_m, .int d t_d] 6 (lfirst y ≤ lnum (y + 3760) m d ∧ lnum (y + 3760) m d < lfirst (y + 1)) (RVal fun t => .int (lnum (y + 3760) m d) t) := by
  k_with_none
  w_top off
  k_with "eval Name" => (k_here; (with_reducible show wpAny _ _ (eval (Expr.Name _ _) (envOf _ _ _ _ _)) _ _ _); (with_reducible rename Fr _ _ _ _ => kF); k_dflt (refine' name_K kF ?J1k1 ?J1k2 ?J1k3 ?_; (case J1k1 => k_asm); (case J1k2 => k_asm); (case J1k3 => k_is); k_whole))
  k_with "storeName" => (k_here; (with_reducible show wpAny _ _ (storeName _ _ (Value.int _ _)) _ _ _); k_dflt (refine' JB.store_int ?J2F ?J2N ?_ ?J2a ?J2b; (case J2F => k_asm); (case J2N => k_asm); (case J2a => rfl); (case J2b => rfl); k_whole; intro t h' F' N'; (try k_sweep)))
  k_with "eval Call" => (k_here; (with_reducible show wpAny _ _ (eval (Expr.Call (Expr.Name _ _) _ [] _) _) _ _ _); refine PyProof.Rows.Call_ ?_)
  k_with "call builtin:divmod" => (k_here; k_dflt (refine' JB.divmod_J ?J4k1 ?J4k2 ?J4k3 ?J4k4 ?_; (case J4k1 => k_asm); (case J4k2 => k_asm); (case J4k3 => decide); (case J4k4 => exact PyProof.noPylong_of_log2 (by decide +kernel)); intro D' h' F' N' l1; (try k_lt l1)))
  k_with "execs cons" => (k_here; (with_reducible show wpAny _ _ _ _ _ (Shared.mk _ _ _ (_ + 1 + 1 + 1) _)); (with_reducible refine JB.gen_toks ?_); intro tk)
  k_with "execs nil" => (k_here; (with_reducible show wpAny _ _ _ _ _ (Shared.mk _ _ _ (_ + 1 + 1 + 1) _)); (with_reducible refine JB.gen_toks ?_); intro tk)
  k_with "call ref" => (k_here; (with_reducible show wpAny _ _ (call (Value.ref 248) _) _ _ _); k_dflt (refine' JB.C_law_first _ _ _ ?J7k1 ?J7k2 ?J7k3 ?J7k4 ?J7k5 ?J7kK ?J7kp ?J7kd ?J7ku ?_; (case J7k1 => first | k_asm | ktn_no "jb: the frames below"); (case J7k2 => first | k_asm | ktn_no "jb: the frame"); (case J7k3 => first | k_asm | ktn_no "jb: the written part"); (case J7k4 => first | k_asm | ktn_no "jb: the ledger"); (case J7k5 => first | k_asm | ktn_no "jb: the top's facts"); (case J7kK => first | exact rfl | assumption | ktn_no "jb: the caller is no def"); (case J7kd => first | ktr_room | ktn_no "jb: the frames' room"); (case J7ku => first | ktr_units | ktn_no "jb: the C units"); (case J7kp => first | (fail) | trivial | ((try dsimp only); first | with_reducible assumption | omega) | ktn_no "jb: what the claim asks"); intro t9 h9 tk9 F9 N9; (try dsimp only); (try k_fold)); walk_say "CONTRACT law_first")
  k_with "call ref" => (k_here; (with_reducible show wpAny _ _ (call (Value.ref 241) _) _ _ _); k_dflt (refine' JB.C_law_number _ _ _ _ _ _ _ ?J8k1 ?J8k2 ?J8k3 ?J8k4 ?J8k5 ?J8kK ?J8kp ?J8kd ?J8ku ?_; (case J8k1 => first | k_asm | ktn_no "jb: the frames below"); (case J8k2 => first | k_asm | ktn_no "jb: the frame"); (case J8k3 => first | k_asm | ktn_no "jb: the written part"); (case J8k4 => first | k_asm | ktn_no "jb: the ledger"); (case J8k5 => first | k_asm | ktn_no "jb: the top's facts"); (case J8kK => first | exact rfl | assumption | ktn_no "jb: the caller is no def"); (case J8kd => first | ktr_room | ktn_no "jb: the frames' room"); (case J8ku => first | ktr_units | ktn_no "jb: the C units"); (case J8kp => first | (fail) | trivial | ((try dsimp only); first | with_reducible assumption | omega) | ktn_no "jb: what the claim asks"); intro t9 h9 tk9 F9 N9; (try dsimp only); (try k_fold)); walk_say "CONTRACT law_number")
  k_with "exec For Name Tuple cons nil" => (k_here; (rename PyProof.Rows.Fr _ _ _ _ => jF); k_dflt (refine PySem.W.For_turns jF ?_))
  k_with "pyIter ref" => (k_here; (with_reducible show wpAny _ _ (pyIter (Value.ref _)) (fun it s₂ => TurnsAt _ _ _ _ _ _ _ _ _ it s₂) _ _); (rename PyProof.Rows.Fr _ _ _ _ => jF); (rename PyProof.Rows.News _ _ _ _ => jN); k_dflt (refine PySem.W.iter_tupTurns rfl jF jN (.head _) rfl rfl ?_; intro I hI))
  k_with "UnrEndW" => (k_here; (rename PyProof.Rows.Fr _ _ _ _ => jF); (rename PyProof.Rows.News _ _ _ _ => jN); k_dflt (first | (refine JB.unrEndW_one jF jN (by assumption) ⟨by k_subL, ?_⟩) | (refine JB.unrEndW_one jF (JB.news_tail jN) (by assumption) ⟨by k_subL, ?_⟩) | (refine JB.unrEndW_one jF (JB.news_tail (JB.news_tail jN)) (by assumption) ⟨by k_subL, ?_⟩)))
  dsimp only [JCl, RVal, RTup]
  k_fill
  intros
  rename_i hpre hroom hunits hret
  obtain ⟨hp1, hp2⟩ := hpre
  refine wpAny_call ?_
  k_dflt cell_enter
  k_steps
  skip
  all_goals ((rename PyProof.Rows.Fr _ _ _ _ => jF); (rename PyProof.Rows.News _ _ _ _ => jN); refine cb_retI hret ?_ jF (by first | exact jN | exact cb_drop jN (by intro p hp; repeat (first | exact hp | apply List.mem_cons_of_mem))))
  all_goals (law_clear; (rfl))
set_option maxRecDepth 100000 in
set_option maxHeartbeats 8000000 in
theorem C_law_found2 (w : World) (y : Int) (t_y : Tok) (m : Int) (t_m : Tok) (d : Int) (t_d : Tok) : JCl w 262 [.int y t_y, .int m t_m, .int d t_d] 6 (¬ (lfirst y ≤ lnum (y + 3760) m d ∧ lnum (y + 3760) m d < lfirst (y + 1)) ∧ lfirst y ≤ lnum (y + 3761) m d ∧ lnum (y + 3761) m d < lfirst (y + 1)) (RVal fun t => .int (lnum (y + 3761) m d) t) := by
  k_with_none
  w_top off
  k_with "eval Name" => (k_here; (with_reducible show wpAny _ _ (eval (Expr.Name _ _) (envOf _ _ _ _ _)) _ _ _); (with_reducible rename Fr _ _ _ _ => kF); k_dflt (refine' name_K kF ?J1k1 ?J1k2 ?J1k3 ?_; (case J1k1 => k_asm); (case J1k2 => k_asm); (case J1k3 => k_is); k_whole))
  k_with "storeName" => (k_here; (with_reducible show wpAny _ _ (storeName _ _ (Value.int _ _)) _ _ _); k_dflt (refine' JB.store_int ?J2F ?J2N ?_ ?J2a ?J2b; (case J2F => k_asm); (case J2N => k_asm); (case J2a => rfl); (case J2b => rfl); k_whole; intro t h' F' N'; (try k_sweep)))
  k_with "eval Call" => (k_here; (with_reducible show wpAny _ _ (eval (Expr.Call (Expr.Name _ _) _ [] _) _) _ _ _); refine PyProof.Rows.Call_ ?_)
  k_with "call builtin:divmod" => (k_here; k_dflt (refine' JB.divmod_J ?J4k1 ?J4k2 ?J4k3 ?J4k4 ?_; (case J4k1 => k_asm); (case J4k2 => k_asm); (case J4k3 => decide); (case J4k4 => exact PyProof.noPylong_of_log2 (by decide +kernel)); intro D' h' F' N' l1; (try k_lt l1)))
  k_with "execs cons" => (k_here; (with_reducible show wpAny _ _ _ _ _ (Shared.mk _ _ _ (_ + 1 + 1 + 1) _)); (with_reducible refine JB.gen_toks ?_); intro tk)
  k_with "execs nil" => (k_here; (with_reducible show wpAny _ _ _ _ _ (Shared.mk _ _ _ (_ + 1 + 1 + 1) _)); (with_reducible refine JB.gen_toks ?_); intro tk)
  k_with "call ref" => (k_here; (with_reducible show wpAny _ _ (call (Value.ref 248) _) _ _ _); k_dflt (refine' JB.C_law_first _ _ _ ?J7k1 ?J7k2 ?J7k3 ?J7k4 ?J7k5 ?J7kK ?J7kp ?J7kd ?J7ku ?_; (case J7k1 => first | k_asm | ktn_no "jb: the frames below"); (case J7k2 => first | k_asm | ktn_no "jb: the frame"); (case J7k3 => first | k_asm | ktn_no "jb: the written part"); (case J7k4 => first | k_asm | ktn_no "jb: the ledger"); (case J7k5 => first | k_asm | ktn_no "jb: the top's facts"); (case J7kK => first | exact rfl | assumption | ktn_no "jb: the caller is no def"); (case J7kd => first | ktr_room | ktn_no "jb: the frames' room"); (case J7ku => first | ktr_units | ktn_no "jb: the C units"); (case J7kp => first | (fail) | trivial | ((try dsimp only); first | with_reducible assumption | omega) | ktn_no "jb: what the claim asks"); intro t9 h9 tk9 F9 N9; (try dsimp only); (try k_fold)); walk_say "CONTRACT law_first")
  k_with "call ref" => (k_here; (with_reducible show wpAny _ _ (call (Value.ref 241) _) _ _ _); k_dflt (refine' JB.C_law_number _ _ _ _ _ _ _ ?J8k1 ?J8k2 ?J8k3 ?J8k4 ?J8k5 ?J8kK ?J8kp ?J8kd ?J8ku ?_; (case J8k1 => first | k_asm | ktn_no "jb: the frames below"); (case J8k2 => first | k_asm | ktn_no "jb: the frame"); (case J8k3 => first | k_asm | ktn_no "jb: the written part"); (case J8k4 => first | k_asm | ktn_no "jb: the ledger"); (case J8k5 => first | k_asm | ktn_no "jb: the top's facts"); (case J8kK => first | exact rfl | assumption | ktn_no "jb: the caller is no def"); (case J8kd => first | ktr_room | ktn_no "jb: the frames' room"); (case J8ku => first | ktr_units | ktn_no "jb: the C units"); (case J8kp => first | (fail) | trivial | ((try dsimp only); first | with_reducible assumption | omega) | ktn_no "jb: what the claim asks"); intro t9 h9 tk9 F9 N9; (try dsimp only); (try k_fold)); walk_say "CONTRACT law_number")
  k_with "exec For Name Tuple cons nil" => (k_here; (rename PyProof.Rows.Fr _ _ _ _ => jF); k_dflt (refine PySem.W.For_turns jF ?_))
  k_with "pyIter ref" => (k_here; (with_reducible show wpAny _ _ (pyIter (Value.ref _)) (fun it s₂ => TurnsAt _ _ _ _ _ _ _ _ _ it s₂) _ _); (rename PyProof.Rows.Fr _ _ _ _ => jF); (rename PyProof.Rows.News _ _ _ _ => jN); k_dflt (refine PySem.W.iter_tupTurns rfl jF jN (.head _) rfl rfl ?_; intro I hI))
  k_with "UnrEndW" => (k_here; (rename PyProof.Rows.Fr _ _ _ _ => jF); (rename PyProof.Rows.News _ _ _ _ => jN); k_dflt (first | (refine JB.unrEndW_one jF jN (by assumption) ⟨by k_subL, ?_⟩) | (refine JB.unrEndW_one jF (JB.news_tail jN) (by assumption) ⟨by k_subL, ?_⟩) | (refine JB.unrEndW_one jF (JB.news_tail (JB.news_tail jN)) (by assumption) ⟨by k_subL, ?_⟩)))
  dsimp only [JCl, RVal, RTup]
  k_fill
  intros
  rename_i hpre hroom hunits hret
  obtain ⟨hp1, hp2, hp3⟩ := hpre
  refine wpAny_call ?_
  k_dflt cell_enter
  k_steps
  skip
  all_goals ((rename PyProof.Rows.Fr _ _ _ _ => jF); (rename PyProof.Rows.News _ _ _ _ => jN); refine cb_retI hret ?_ jF (by first | exact jN | exact cb_drop jN (by intro p hp; repeat (first | exact hp | apply List.mem_cons_of_mem))))
  all_goals (law_clear; (rfl))
set_option maxRecDepth 100000 in
set_option maxHeartbeats 8000000 in
theorem C_law_found3 (w : World) (y : Int) (t_y : Tok) (m : Int) (t_m : Tok) (d : Int) (t_d : Tok) : JCl w 262 [.int y t_y, .int m t_m, .int d t_d] 6 (¬ (lfirst y ≤ lnum (y + 3760) m d ∧ lnum (y + 3760) m d < lfirst (y + 1)) ∧ ¬ (lfirst y ≤ lnum (y + 3761) m d ∧ lnum (y + 3761) m d < lfirst (y + 1))) (RVal fun t => .str (Str.ofString "refused") t) := by
  k_with_none
  w_top off
  k_with "eval Name" => (k_here; (with_reducible show wpAny _ _ (eval (Expr.Name _ _) (envOf _ _ _ _ _)) _ _ _); (with_reducible rename Fr _ _ _ _ => kF); k_dflt (refine' name_K kF ?J1k1 ?J1k2 ?J1k3 ?_; (case J1k1 => k_asm); (case J1k2 => k_asm); (case J1k3 => k_is); k_whole))
  k_with "storeName" => (k_here; (with_reducible show wpAny _ _ (storeName _ _ (Value.int _ _)) _ _ _); k_dflt (refine' JB.store_int ?J2F ?J2N ?_ ?J2a ?J2b; (case J2F => k_asm); (case J2N => k_asm); (case J2a => rfl); (case J2b => rfl); k_whole; intro t h' F' N'; (try k_sweep)))
  k_with "eval Call" => (k_here; (with_reducible show wpAny _ _ (eval (Expr.Call (Expr.Name _ _) _ [] _) _) _ _ _); refine PyProof.Rows.Call_ ?_)
  k_with "call builtin:divmod" => (k_here; k_dflt (refine' JB.divmod_J ?J4k1 ?J4k2 ?J4k3 ?J4k4 ?_; (case J4k1 => k_asm); (case J4k2 => k_asm); (case J4k3 => decide); (case J4k4 => exact PyProof.noPylong_of_log2 (by decide +kernel)); intro D' h' F' N' l1; (try k_lt l1)))
  k_with "execs cons" => (k_here; (with_reducible show wpAny _ _ _ _ _ (Shared.mk _ _ _ (_ + 1 + 1 + 1) _)); (with_reducible refine JB.gen_toks ?_); intro tk)
  k_with "execs nil" => (k_here; (with_reducible show wpAny _ _ _ _ _ (Shared.mk _ _ _ (_ + 1 + 1 + 1) _)); (with_reducible refine JB.gen_toks ?_); intro tk)
  k_with "call ref" => (k_here; (with_reducible show wpAny _ _ (call (Value.ref 248) _) _ _ _); k_dflt (refine' JB.C_law_first _ _ _ ?J7k1 ?J7k2 ?J7k3 ?J7k4 ?J7k5 ?J7kK ?J7kp ?J7kd ?J7ku ?_; (case J7k1 => first | k_asm | ktn_no "jb: the frames below"); (case J7k2 => first | k_asm | ktn_no "jb: the frame"); (case J7k3 => first | k_asm | ktn_no "jb: the written part"); (case J7k4 => first | k_asm | ktn_no "jb: the ledger"); (case J7k5 => first | k_asm | ktn_no "jb: the top's facts"); (case J7kK => first | exact rfl | assumption | ktn_no "jb: the caller is no def"); (case J7kd => first | ktr_room | ktn_no "jb: the frames' room"); (case J7ku => first | ktr_units | ktn_no "jb: the C units"); (case J7kp => first | (fail) | trivial | ((try dsimp only); first | with_reducible assumption | omega) | ktn_no "jb: what the claim asks"); intro t9 h9 tk9 F9 N9; (try dsimp only); (try k_fold)); walk_say "CONTRACT law_first")
  k_with "call ref" => (k_here; (with_reducible show wpAny _ _ (call (Value.ref 241) _) _ _ _); k_dflt (refine' JB.C_law_number _ _ _ _ _ _ _ ?J8k1 ?J8k2 ?J8k3 ?J8k4 ?J8k5 ?J8kK ?J8kp ?J8kd ?J8ku ?_; (case J8k1 => first | k_asm | ktn_no "jb: the frames below"); (case J8k2 => first | k_asm | ktn_no "jb: the frame"); (case J8k3 => first | k_asm | ktn_no "jb: the written part"); (case J8k4 => first | k_asm | ktn_no "jb: the ledger"); (case J8k5 => first | k_asm | ktn_no "jb: the top's facts"); (case J8kK => first | exact rfl | assumption | ktn_no "jb: the caller is no def"); (case J8kd => first | ktr_room | ktn_no "jb: the frames' room"); (case J8ku => first | ktr_units | ktn_no "jb: the C units"); (case J8kp => first | (fail) | trivial | ((try dsimp only); first | with_reducible assumption | omega) | ktn_no "jb: what the claim asks"); intro t9 h9 tk9 F9 N9; (try dsimp only); (try k_fold)); walk_say "CONTRACT law_number")
  k_with "exec For Name Tuple cons nil" => (k_here; (rename PyProof.Rows.Fr _ _ _ _ => jF); k_dflt (refine PySem.W.For_turns jF ?_))
  k_with "pyIter ref" => (k_here; (with_reducible show wpAny _ _ (pyIter (Value.ref _)) (fun it s₂ => TurnsAt _ _ _ _ _ _ _ _ _ it s₂) _ _); (rename PyProof.Rows.Fr _ _ _ _ => jF); (rename PyProof.Rows.News _ _ _ _ => jN); k_dflt (refine PySem.W.iter_tupTurns rfl jF jN (.head _) rfl rfl ?_; intro I hI))
  k_with "UnrEndW" => (k_here; (rename PyProof.Rows.Fr _ _ _ _ => jF); (rename PyProof.Rows.News _ _ _ _ => jN); k_dflt (first | (refine JB.unrEndW_one jF jN (by assumption) ⟨by k_subL, ?_⟩) | (refine JB.unrEndW_one jF (JB.news_tail jN) (by assumption) ⟨by k_subL, ?_⟩) | (refine JB.unrEndW_one jF (JB.news_tail (JB.news_tail jN)) (by assumption) ⟨by k_subL, ?_⟩)))
  dsimp only [JCl, RVal, RTup]
  k_fill
  intros
  rename_i hpre hroom hunits hret
  obtain ⟨hp1, hp2⟩ := hpre
  refine wpAny_call ?_
  k_dflt cell_enter
  k_steps
  skip
  all_goals ((rename PyProof.Rows.Fr _ _ _ _ => jF); (rename PyProof.Rows.News _ _ _ _ => jN); refine cb_retS hret ?_ jF (by first | exact jN | exact cb_drop jN (by intro p hp; repeat (first | exact hp | apply List.mem_cons_of_mem))))
  all_goals (law_clear; (rfl))
set_option maxRecDepth 100000 in
set_option maxHeartbeats 8000000 in
theorem C_gy1 (w : World) (y : Int) (t_y : Tok) (m : Int) (t_m : Tok) (d : Int) (t_d : Tok) : JCl w 120 [.int y t_y, .int m t_m, .int d t_d] 9 (1 ≤ m ∧ m ≤ 13 ∧ fy (hto (y + 3760) m d) = y) (RVal fun t => .int (hto (y + 3760) m d) t) := by
  k_with_none
  w_top off
  k_with "eval Name" => (k_here; (with_reducible show wpAny _ _ (eval (Expr.Name _ _) (envOf _ _ _ _ _)) _ _ _); (with_reducible rename Fr _ _ _ _ => kF); k_dflt (refine' name_K kF ?J1k1 ?J1k2 ?J1k3 ?_; (case J1k1 => k_asm); (case J1k2 => k_asm); (case J1k3 => k_is); k_whole))
  k_with "storeName" => (k_here; (with_reducible show wpAny _ _ (storeName _ _ (Value.int _ _)) _ _ _); k_dflt (refine' JB.store_int ?J2F ?J2N ?_ ?J2a ?J2b; (case J2F => k_asm); (case J2N => k_asm); (case J2a => rfl); (case J2b => rfl); k_whole; intro t h' F' N'; (try k_sweep)))
  k_with "eval Call" => (k_here; (with_reducible show wpAny _ _ (eval (Expr.Call (Expr.Name _ _) _ [] _) _) _ _ _); refine PyProof.Rows.Call_ ?_)
  k_with "call builtin:divmod" => (k_here; k_dflt (refine' JB.divmod_J ?J4k1 ?J4k2 ?J4k3 ?J4k4 ?_; (case J4k1 => k_asm); (case J4k2 => k_asm); (case J4k3 => decide); (case J4k4 => exact PyProof.noPylong_of_log2 (by decide +kernel)); intro D' h' F' N' l1; (try k_lt l1)))
  k_with "execs cons" => (k_here; (with_reducible show wpAny _ _ _ _ _ (Shared.mk _ _ _ (_ + 1 + 1 + 1) _)); (with_reducible refine JB.gen_toks ?_); intro tk)
  k_with "execs nil" => (k_here; (with_reducible show wpAny _ _ _ _ _ (Shared.mk _ _ _ (_ + 1 + 1 + 1) _)); (with_reducible refine JB.gen_toks ?_); intro tk)
  k_with "call ref" => (k_here; (with_reducible show wpAny _ _ (call (Value.ref 113) _) _ _ _); k_dflt (refine' JB.C_to_jd_hebrew _ _ _ _ _ _ _ ?J7k1 ?J7k2 ?J7k3 ?J7k4 ?J7k5 ?J7kK ?J7kp ?J7kd ?J7ku ?_; (case J7k1 => first | k_asm | ktn_no "jb: the frames below"); (case J7k2 => first | k_asm | ktn_no "jb: the frame"); (case J7k3 => first | k_asm | ktn_no "jb: the written part"); (case J7k4 => first | k_asm | ktn_no "jb: the ledger"); (case J7k5 => first | k_asm | ktn_no "jb: the top's facts"); (case J7kK => first | exact rfl | assumption | ktn_no "jb: the caller is no def"); (case J7kd => first | ktr_room | ktn_no "jb: the frames' room"); (case J7ku => first | ktr_units | ktn_no "jb: the C units"); (case J7kp => first | (fail) | trivial | ((try dsimp only); first | with_reducible assumption | omega) | ktn_no "jb: what the claim asks"); intro t9 h9 tk9 F9 N9; (try dsimp only); (try k_fold)); walk_say "CONTRACT to_jd_hebrew")
  k_with "call ref" => (k_here; (with_reducible show wpAny _ _ (call (Value.ref 57) _) _ _ _); k_dflt (refine' JB.C_from_jd _ _ _ ?J8k1 ?J8k2 ?J8k3 ?J8k4 ?J8k5 ?J8kK ?J8kp ?J8kd ?J8ku ?_; (case J8k1 => first | k_asm | ktn_no "jb: the frames below"); (case J8k2 => first | k_asm | ktn_no "jb: the frame"); (case J8k3 => first | k_asm | ktn_no "jb: the written part"); (case J8k4 => first | k_asm | ktn_no "jb: the ledger"); (case J8k5 => first | k_asm | ktn_no "jb: the top's facts"); (case J8kK => first | exact rfl | assumption | ktn_no "jb: the caller is no def"); (case J8kd => first | ktr_room | ktn_no "jb: the frames' room"); (case J8ku => first | ktr_units | ktn_no "jb: the C units"); (case J8kp => first | (fail) | trivial | ((try dsimp only); first | with_reducible assumption | omega) | ktn_no "jb: what the claim asks"); intro D9 t1 t2 t3 k9 h9 tk9 F9 N9; (try dsimp only); (try k_fold)); walk_say "CONTRACT from_jd")
  k_with "call ref" => (k_here; (with_reducible show wpAny _ _ (call (Value.ref 50) _) _ _ _); k_dflt (refine' JB.C_to_jd_gregorian _ _ _ _ _ _ _ ?J9k1 ?J9k2 ?J9k3 ?J9k4 ?J9k5 ?J9kK ?J9kp ?J9kd ?J9ku ?_; (case J9k1 => first | k_asm | ktn_no "jb: the frames below"); (case J9k2 => first | k_asm | ktn_no "jb: the frame"); (case J9k3 => first | k_asm | ktn_no "jb: the written part"); (case J9k4 => first | k_asm | ktn_no "jb: the ledger"); (case J9k5 => first | k_asm | ktn_no "jb: the top's facts"); (case J9kK => first | exact rfl | assumption | ktn_no "jb: the caller is no def"); (case J9kd => first | ktr_room | ktn_no "jb: the frames' room"); (case J9ku => first | ktr_units | ktn_no "jb: the C units"); (case J9kp => first | (first | exact JB.gdim_one _ _ | exact JB.gdim_jd _) | trivial | ((try dsimp only); first | with_reducible assumption | omega) | ktn_no "jb: what the claim asks"); intro t9 h9 tk9 F9 N9; (try dsimp only); (try k_fold)); walk_say "CONTRACT to_jd_gregorian")
  k_with "exec For Name Tuple cons nil" => (k_here; (rename PyProof.Rows.Fr _ _ _ _ => jF); k_dflt (refine PySem.W.For_turns jF ?_))
  k_with "pyIter ref" => (k_here; (with_reducible show wpAny _ _ (pyIter (Value.ref _)) (fun it s₂ => TurnsAt _ _ _ _ _ _ _ _ _ it s₂) _ _); (rename PyProof.Rows.Fr _ _ _ _ => jF); (rename PyProof.Rows.News _ _ _ _ => jN); k_dflt (refine PySem.W.iter_tupTurns rfl jF jN (.head _) rfl rfl ?_; intro I hI))
  k_with "UnrEndW" => (k_here; (rename PyProof.Rows.Fr _ _ _ _ => jF); (rename PyProof.Rows.News _ _ _ _ => jN); k_dflt (first | (refine JB.unrEndW_one jF jN (by assumption) ⟨by k_subL, ?_⟩) | (refine JB.unrEndW_one jF (JB.news_tail jN) (by assumption) ⟨by k_subL, ?_⟩) | (refine JB.unrEndW_one jF (JB.news_tail (JB.news_tail jN)) (by assumption) ⟨by k_subL, ?_⟩)))
  k_with "ite" => (k_here; k_openite; first | (refine ite_neg (by (law_clear; (try simp only [decide_eq_true_eq, beq_iff_eq]); omega)) ?_; walk_say "PRUNED BY OMEGA") | (refine ite_pos (by (law_clear; (try simp only [decide_eq_true_eq, beq_iff_eq]); omega)) ?_; walk_say "PRUNED BY OMEGA"))
  dsimp only [JCl, RVal, RTup]
  k_fill
  intros
  rename_i hpre hroom hunits hret
  obtain ⟨hp1, hp2, hp3⟩ := hpre
  refine wpAny_call ?_
  k_dflt cell_enter
  k_steps
  skip
  all_goals ((rename PyProof.Rows.Fr _ _ _ _ => jF); (rename PyProof.Rows.News _ _ _ _ => jN); refine cb_retI hret ?_ jF (by first | exact jN | exact cb_drop jN (by intro p hp; repeat (first | exact hp | apply List.mem_cons_of_mem))))
  all_goals (law_clear; (first | rfl | exact gto_jd _))
set_option maxRecDepth 100000 in
set_option maxHeartbeats 8000000 in
theorem C_gy2 (w : World) (y : Int) (t_y : Tok) (m : Int) (t_m : Tok) (d : Int) (t_d : Tok) : JCl w 120 [.int y t_y, .int m t_m, .int d t_d] 9 (1 ≤ m ∧ m ≤ 13 ∧ fy (hto (y + 3760) m d) ≠ y ∧ fy (hto (y + 3760 + 1) m d) = y) (RVal fun t => .int (hto (y + 3760 + 1) m d) t) := by
  k_with_none
  w_top off
  k_with "eval Name" => (k_here; (with_reducible show wpAny _ _ (eval (Expr.Name _ _) (envOf _ _ _ _ _)) _ _ _); (with_reducible rename Fr _ _ _ _ => kF); k_dflt (refine' name_K kF ?J1k1 ?J1k2 ?J1k3 ?_; (case J1k1 => k_asm); (case J1k2 => k_asm); (case J1k3 => k_is); k_whole))
  k_with "storeName" => (k_here; (with_reducible show wpAny _ _ (storeName _ _ (Value.int _ _)) _ _ _); k_dflt (refine' JB.store_int ?J2F ?J2N ?_ ?J2a ?J2b; (case J2F => k_asm); (case J2N => k_asm); (case J2a => rfl); (case J2b => rfl); k_whole; intro t h' F' N'; (try k_sweep)))
  k_with "eval Call" => (k_here; (with_reducible show wpAny _ _ (eval (Expr.Call (Expr.Name _ _) _ [] _) _) _ _ _); refine PyProof.Rows.Call_ ?_)
  k_with "call builtin:divmod" => (k_here; k_dflt (refine' JB.divmod_J ?J4k1 ?J4k2 ?J4k3 ?J4k4 ?_; (case J4k1 => k_asm); (case J4k2 => k_asm); (case J4k3 => decide); (case J4k4 => exact PyProof.noPylong_of_log2 (by decide +kernel)); intro D' h' F' N' l1; (try k_lt l1)))
  k_with "execs cons" => (k_here; (with_reducible show wpAny _ _ _ _ _ (Shared.mk _ _ _ (_ + 1 + 1 + 1) _)); (with_reducible refine JB.gen_toks ?_); intro tk)
  k_with "execs nil" => (k_here; (with_reducible show wpAny _ _ _ _ _ (Shared.mk _ _ _ (_ + 1 + 1 + 1) _)); (with_reducible refine JB.gen_toks ?_); intro tk)
  k_with "call ref" => (k_here; (with_reducible show wpAny _ _ (call (Value.ref 113) _) _ _ _); k_dflt (refine' JB.C_to_jd_hebrew _ _ _ _ _ _ _ ?J7k1 ?J7k2 ?J7k3 ?J7k4 ?J7k5 ?J7kK ?J7kp ?J7kd ?J7ku ?_; (case J7k1 => first | k_asm | ktn_no "jb: the frames below"); (case J7k2 => first | k_asm | ktn_no "jb: the frame"); (case J7k3 => first | k_asm | ktn_no "jb: the written part"); (case J7k4 => first | k_asm | ktn_no "jb: the ledger"); (case J7k5 => first | k_asm | ktn_no "jb: the top's facts"); (case J7kK => first | exact rfl | assumption | ktn_no "jb: the caller is no def"); (case J7kd => first | ktr_room | ktn_no "jb: the frames' room"); (case J7ku => first | ktr_units | ktn_no "jb: the C units"); (case J7kp => first | (fail) | trivial | ((try dsimp only); first | with_reducible assumption | omega) | ktn_no "jb: what the claim asks"); intro t9 h9 tk9 F9 N9; (try dsimp only); (try k_fold)); walk_say "CONTRACT to_jd_hebrew")
  k_with "call ref" => (k_here; (with_reducible show wpAny _ _ (call (Value.ref 57) _) _ _ _); k_dflt (refine' JB.C_from_jd _ _ _ ?J8k1 ?J8k2 ?J8k3 ?J8k4 ?J8k5 ?J8kK ?J8kp ?J8kd ?J8ku ?_; (case J8k1 => first | k_asm | ktn_no "jb: the frames below"); (case J8k2 => first | k_asm | ktn_no "jb: the frame"); (case J8k3 => first | k_asm | ktn_no "jb: the written part"); (case J8k4 => first | k_asm | ktn_no "jb: the ledger"); (case J8k5 => first | k_asm | ktn_no "jb: the top's facts"); (case J8kK => first | exact rfl | assumption | ktn_no "jb: the caller is no def"); (case J8kd => first | ktr_room | ktn_no "jb: the frames' room"); (case J8ku => first | ktr_units | ktn_no "jb: the C units"); (case J8kp => first | (fail) | trivial | ((try dsimp only); first | with_reducible assumption | omega) | ktn_no "jb: what the claim asks"); intro D9 t1 t2 t3 k9 h9 tk9 F9 N9; (try dsimp only); (try k_fold)); walk_say "CONTRACT from_jd")
  k_with "call ref" => (k_here; (with_reducible show wpAny _ _ (call (Value.ref 50) _) _ _ _); k_dflt (refine' JB.C_to_jd_gregorian _ _ _ _ _ _ _ ?J9k1 ?J9k2 ?J9k3 ?J9k4 ?J9k5 ?J9kK ?J9kp ?J9kd ?J9ku ?_; (case J9k1 => first | k_asm | ktn_no "jb: the frames below"); (case J9k2 => first | k_asm | ktn_no "jb: the frame"); (case J9k3 => first | k_asm | ktn_no "jb: the written part"); (case J9k4 => first | k_asm | ktn_no "jb: the ledger"); (case J9k5 => first | k_asm | ktn_no "jb: the top's facts"); (case J9kK => first | exact rfl | assumption | ktn_no "jb: the caller is no def"); (case J9kd => first | ktr_room | ktn_no "jb: the frames' room"); (case J9ku => first | ktr_units | ktn_no "jb: the C units"); (case J9kp => first | (first | exact JB.gdim_one _ _ | exact JB.gdim_jd _) | trivial | ((try dsimp only); first | with_reducible assumption | omega) | ktn_no "jb: what the claim asks"); intro t9 h9 tk9 F9 N9; (try dsimp only); (try k_fold)); walk_say "CONTRACT to_jd_gregorian")
  k_with "exec For Name Tuple cons nil" => (k_here; (rename PyProof.Rows.Fr _ _ _ _ => jF); k_dflt (refine PySem.W.For_turns jF ?_))
  k_with "pyIter ref" => (k_here; (with_reducible show wpAny _ _ (pyIter (Value.ref _)) (fun it s₂ => TurnsAt _ _ _ _ _ _ _ _ _ it s₂) _ _); (rename PyProof.Rows.Fr _ _ _ _ => jF); (rename PyProof.Rows.News _ _ _ _ => jN); k_dflt (refine PySem.W.iter_tupTurns rfl jF jN (.head _) rfl rfl ?_; intro I hI))
  k_with "UnrEndW" => (k_here; (rename PyProof.Rows.Fr _ _ _ _ => jF); (rename PyProof.Rows.News _ _ _ _ => jN); k_dflt (first | (refine JB.unrEndW_one jF jN (by assumption) ⟨by k_subL, ?_⟩) | (refine JB.unrEndW_one jF (JB.news_tail jN) (by assumption) ⟨by k_subL, ?_⟩) | (refine JB.unrEndW_one jF (JB.news_tail (JB.news_tail jN)) (by assumption) ⟨by k_subL, ?_⟩)))
  k_with "ite" => (k_here; k_openite; first | (refine ite_neg (by (law_clear; (try simp only [decide_eq_true_eq, beq_iff_eq]); omega)) ?_; walk_say "PRUNED BY OMEGA") | (refine ite_pos (by (law_clear; (try simp only [decide_eq_true_eq, beq_iff_eq]); omega)) ?_; walk_say "PRUNED BY OMEGA"))
  dsimp only [JCl, RVal, RTup]
  k_fill
  intros
  rename_i hpre hroom hunits hret
  obtain ⟨hp1, hp2, hp3, hp4⟩ := hpre
  refine wpAny_call ?_
  k_dflt cell_enter
  k_steps
  skip
  all_goals ((rename PyProof.Rows.Fr _ _ _ _ => jF); (rename PyProof.Rows.News _ _ _ _ => jN); refine cb_retI hret ?_ jF (by first | exact jN | exact cb_drop jN (by intro p hp; repeat (first | exact hp | apply List.mem_cons_of_mem))))
  all_goals (law_clear; (first | rfl | exact gto_jd _))
theorem C_law_foundF (w : World) (n : Int) (y : Int) (t_y : Tok) (m : Int) (t_m : Tok) (d : Int) (t_d : Tok) : JCl w 262 [.int y t_y, .int m t_m, .int d t_d] 6 (Fnd y m d n) (RVal fun t => .int n t) := by
  dsimp only [JCl, RVal, RTup]
  intro mean mg mb dp un gd cn cs a ccd cl outer A₀ base h₀ L mm s Q E news k1 k2 k3 k4 k5 kK kp kd ku kR
  obtain ⟨p, rfl⟩ | ⟨p, rfl⟩ := kp
  · exact C_law_found1 w y t_y m t_m d t_d k1 k2 k3 k4 k5 kK p kd ku kR
  · exact C_law_found2 w y t_y m t_m d t_d k1 k2 k3 k4 k5 kK p kd ku kR
theorem C_law_foundN (w : World) (y : Int) (t_y : Tok) (m : Int) (t_m : Tok) (d : Int) (t_d : Tok) : JCl w 262 [.int y t_y, .int m t_m, .int d t_d] 6 (NFnd y m d) (RVal fun t => .str (Str.ofString "refused") t) := by
  dsimp only [JCl, RVal, RTup]
  intro mean mg mb dp un gd cn cs a ccd cl outer A₀ base h₀ L mm s Q E news k1 k2 k3 k4 k5 kK kp kd ku kR
  exact C_law_found3 w y t_y m t_m d t_d k1 k2 k3 k4 k5 kK kp kd ku kR
theorem C_gyF (w : World) (n : Int) (y : Int) (t_y : Tok) (m : Int) (t_m : Tok) (d : Int) (t_d : Tok) : JCl w 120 [.int y t_y, .int m t_m, .int d t_d] 9 ((1 ≤ m ∧ m ≤ 13) ∧ Gnd y m d n) (RVal fun t => .int n t) := by
  dsimp only [JCl, RVal, RTup]
  intro mean mg mb dp un gd cn cs a ccd cl outer A₀ base h₀ L mm s Q E news k1 k2 k3 k4 k5 kK kp kd ku kR
  obtain ⟨q, ⟨p, rfl⟩ | ⟨p, rfl⟩⟩ := kp
  · exact C_gy1 w y t_y m t_m d t_d k1 k2 k3 k4 k5 kK ⟨q.1, q.2, p⟩ kd ku kR
  · exact C_gy2 w y t_y m t_m d t_d k1 k2 k3 k4 k5 kK ⟨q.1, q.2, p.1, p.2⟩ kd ku kR
set_option maxRecDepth 100000 in
set_option maxHeartbeats 8000000 in
theorem C_gyR (w : World) (y : Int) (t_y : Tok) (m : Int) (t_m : Tok) (d : Int) (t_d : Tok) : JClE w 120 [.int y t_y, .int m t_m, .int d t_d] 9 ((1 ≤ m ∧ m ≤ 13) ∧ NGnd y m d)  := by
  k_with_none
  w_top off
  k_with "eval Name" => (k_here; (with_reducible show wpAny _ _ (eval (Expr.Name _ _) (envOf _ _ _ _ _)) _ _ _); (with_reducible rename Fr _ _ _ _ => kF); k_dflt (refine' name_K kF ?J1k1 ?J1k2 ?J1k3 ?_; (case J1k1 => k_asm); (case J1k2 => k_asm); (case J1k3 => k_is); k_whole))
  k_with "storeName" => (k_here; (with_reducible show wpAny _ _ (storeName _ _ (Value.int _ _)) _ _ _); k_dflt (refine' JB.store_int ?J2F ?J2N ?_ ?J2a ?J2b; (case J2F => k_asm); (case J2N => k_asm); (case J2a => rfl); (case J2b => rfl); k_whole; intro t h' F' N'; (try k_sweep)))
  k_with "eval Call" => (k_here; (with_reducible show wpAny _ _ (eval (Expr.Call (Expr.Name _ _) _ [] _) _) _ _ _); refine PyProof.Rows.Call_ ?_)
  k_with "call builtin:divmod" => (k_here; k_dflt (refine' JB.divmod_J ?J4k1 ?J4k2 ?J4k3 ?J4k4 ?_; (case J4k1 => k_asm); (case J4k2 => k_asm); (case J4k3 => decide); (case J4k4 => exact PyProof.noPylong_of_log2 (by decide +kernel)); intro D' h' F' N' l1; (try k_lt l1)))
  k_with "execs cons" => (k_here; (with_reducible show wpAny _ _ _ _ _ (Shared.mk _ _ _ (_ + 1 + 1 + 1) _)); (with_reducible refine JB.gen_toks ?_); intro tk)
  k_with "execs nil" => (k_here; (with_reducible show wpAny _ _ _ _ _ (Shared.mk _ _ _ (_ + 1 + 1 + 1) _)); (with_reducible refine JB.gen_toks ?_); intro tk)
  k_with "call ref" => (k_here; (with_reducible show wpAny _ _ (call (Value.ref 113) _) _ _ _); k_dflt (refine' JB.C_to_jd_hebrew _ _ _ _ _ _ _ ?J7k1 ?J7k2 ?J7k3 ?J7k4 ?J7k5 ?J7kK ?J7kp ?J7kd ?J7ku ?_; (case J7k1 => first | k_asm | ktn_no "jb: the frames below"); (case J7k2 => first | k_asm | ktn_no "jb: the frame"); (case J7k3 => first | k_asm | ktn_no "jb: the written part"); (case J7k4 => first | k_asm | ktn_no "jb: the ledger"); (case J7k5 => first | k_asm | ktn_no "jb: the top's facts"); (case J7kK => first | exact rfl | assumption | ktn_no "jb: the caller is no def"); (case J7kd => first | ktr_room | ktn_no "jb: the frames' room"); (case J7ku => first | ktr_units | ktn_no "jb: the C units"); (case J7kp => first | (fail) | trivial | ((try dsimp only); first | with_reducible assumption | omega) | ktn_no "jb: what the claim asks"); intro t9 h9 tk9 F9 N9; (try dsimp only); (try k_fold)); walk_say "CONTRACT to_jd_hebrew")
  k_with "call ref" => (k_here; (with_reducible show wpAny _ _ (call (Value.ref 57) _) _ _ _); k_dflt (refine' JB.C_from_jd _ _ _ ?J8k1 ?J8k2 ?J8k3 ?J8k4 ?J8k5 ?J8kK ?J8kp ?J8kd ?J8ku ?_; (case J8k1 => first | k_asm | ktn_no "jb: the frames below"); (case J8k2 => first | k_asm | ktn_no "jb: the frame"); (case J8k3 => first | k_asm | ktn_no "jb: the written part"); (case J8k4 => first | k_asm | ktn_no "jb: the ledger"); (case J8k5 => first | k_asm | ktn_no "jb: the top's facts"); (case J8kK => first | exact rfl | assumption | ktn_no "jb: the caller is no def"); (case J8kd => first | ktr_room | ktn_no "jb: the frames' room"); (case J8ku => first | ktr_units | ktn_no "jb: the C units"); (case J8kp => first | (fail) | trivial | ((try dsimp only); first | with_reducible assumption | omega) | ktn_no "jb: what the claim asks"); intro D9 t1 t2 t3 k9 h9 tk9 F9 N9; (try dsimp only); (try k_fold)); walk_say "CONTRACT from_jd")
  k_with "exec For Name Tuple cons nil" => (k_here; (rename PyProof.Rows.Fr _ _ _ _ => jF); k_dflt (refine PySem.W.For_turns jF ?_))
  k_with "pyIter ref" => (k_here; (with_reducible show wpAny _ _ (pyIter (Value.ref _)) (fun it s₂ => TurnsAt _ _ _ _ _ _ _ _ _ it s₂) _ _); (rename PyProof.Rows.Fr _ _ _ _ => jF); (rename PyProof.Rows.News _ _ _ _ => jN); k_dflt (refine PySem.W.iter_tupTurns rfl jF jN (.head _) rfl rfl ?_; intro I hI))
  k_with "UnrEndW" => (k_here; (rename PyProof.Rows.Fr _ _ _ _ => jF); (rename PyProof.Rows.News _ _ _ _ => jN); k_dflt (first | (refine JB.unrEndW_one jF jN (by assumption) ⟨by k_subL, ?_⟩) | (refine JB.unrEndW_one jF (JB.news_tail jN) (by assumption) ⟨by k_subL, ?_⟩) | (refine JB.unrEndW_one jF (JB.news_tail (JB.news_tail jN)) (by assumption) ⟨by k_subL, ?_⟩)))
  k_with "ite" => (k_here; k_openite; first | (refine ite_neg (by (law_clear; (try simp only [decide_eq_true_eq, beq_iff_eq]); omega)) ?_; walk_say "PRUNED BY OMEGA") | (refine ite_pos (by (law_clear; (try simp only [decide_eq_true_eq, beq_iff_eq]); omega)) ?_; walk_say "PRUNED BY OMEGA"))
  k_with "exec Raise some none" => (k_here; (with_reducible show wpAny _ _ (exec (Stmt.Raise (some (Expr.Call (Expr.Name _ _) (_ :: _) [] _)) none _) _) _ _ _); (rename PyProof.Rows.Fr _ _ _ _ => jF); k_dflt (refine' Raise_madeB PySem.F.excCall_ValueError PySem.F.excRaise_ValueError ?J13hh ?_; (case J13hh => rfl); (refine' name_B jF ?J13k1 ?J13k2 ?J13k3 ?J13k4 ?J13k5 ?_; (case J13k1 => k_asm); (case J13k2 => k_asm); (case J13k3 => k_is); (case J13k4 => boot_by_name); (case J13k5 => decide)); refine ⟨rfl, ?_⟩))
  dsimp only [JCl, JClE, RVal, RTup]
  k_fill
  intros
  rename_i hpre hroom hunits hret
  obtain ⟨⟨hp1, hp2⟩, hp3, hp4⟩ := hpre
  refine wpAny_call ?_
  k_dflt cell_enter
  k_steps
  skip
  all_goals ((rename Heap.UpToSlots _ _ => jU); (rename RaisedK _ _ _ _ _ _ _ _ => jR); exact hret _ _ _ _ _ _ (by with_reducible assumption) jU (raised_sub jR (by intro p hp; repeat (first | exact hp | apply List.mem_cons_of_mem))))
set_option maxRecDepth 100000 in
set_option maxHeartbeats 8000000 in
theorem C_h0 (w : World) (n : Int) (y : Int) (t_y : Tok) (ev : Bool) : JCl w 128 [.int y t_y, .bool ev] 11 (Gnd y 9 25 n) (RTup (fy (if ev = true then n - 1 else n)) (fm (if ev = true then n - 1 else n)) (fd (if ev = true then n - 1 else n))) := by
  k_with_none
  w_top off
  k_with "eval Name" => (k_here; (with_reducible show wpAny _ _ (eval (Expr.Name _ _) (envOf _ _ _ _ _)) _ _ _); (with_reducible rename Fr _ _ _ _ => kF); k_dflt (refine' name_K kF ?J1k1 ?J1k2 ?J1k3 ?_; (case J1k1 => k_asm); (case J1k2 => k_asm); (case J1k3 => k_is); k_whole))
  k_with "storeName" => (k_here; (with_reducible show wpAny _ _ (storeName _ _ (Value.int _ _)) _ _ _); k_dflt (refine' JB.store_int ?J2F ?J2N ?_ ?J2a ?J2b; (case J2F => k_asm); (case J2N => k_asm); (case J2a => rfl); (case J2b => rfl); k_whole; intro t h' F' N'; (try k_sweep)))
  k_with "eval Call" => (k_here; (with_reducible show wpAny _ _ (eval (Expr.Call (Expr.Name _ _) _ [] _) _) _ _ _); refine PyProof.Rows.Call_ ?_)
  k_with "call builtin:divmod" => (k_here; k_dflt (refine' JB.divmod_J ?J4k1 ?J4k2 ?J4k3 ?J4k4 ?_; (case J4k1 => k_asm); (case J4k2 => k_asm); (case J4k3 => decide); (case J4k4 => exact PyProof.noPylong_of_log2 (by decide +kernel)); intro D' h' F' N' l1; (try k_lt l1)))
  k_with "execs cons" => (k_here; (with_reducible show wpAny _ _ _ _ _ (Shared.mk _ _ _ (_ + 1 + 1 + 1) _)); (with_reducible refine JB.gen_toks ?_); intro tk)
  k_with "execs nil" => (k_here; (with_reducible show wpAny _ _ _ _ _ (Shared.mk _ _ _ (_ + 1 + 1 + 1) _)); (with_reducible refine JB.gen_toks ?_); intro tk)
  k_with "call ref" => (k_here; (with_reducible show wpAny _ _ (call (Value.ref 120) _) _ _ _); k_dflt (refine' JB.C_gyF _ _ _ _ _ _ _ _ ?J7k1 ?J7k2 ?J7k3 ?J7k4 ?J7k5 ?J7kK ?J7kp ?J7kd ?J7ku ?_; (case J7k1 => first | k_asm | ktn_no "jb: the frames below"); (case J7k2 => first | k_asm | ktn_no "jb: the frame"); (case J7k3 => first | k_asm | ktn_no "jb: the written part"); (case J7k4 => first | k_asm | ktn_no "jb: the ledger"); (case J7k5 => first | k_asm | ktn_no "jb: the top's facts"); (case J7kK => first | exact rfl | assumption | ktn_no "jb: the caller is no def"); (case J7kd => first | ktr_room | ktn_no "jb: the frames' room"); (case J7ku => first | ktr_units | ktn_no "jb: the C units"); (case J7kp => first | (exact ⟨by first | decide | with_reducible assumption, by with_reducible assumption⟩) | trivial | ((try dsimp only); first | with_reducible assumption | omega) | ktn_no "jb: what the claim asks"); intro t9 h9 tk9 F9 N9; (try dsimp only); (try k_fold)); walk_say "CONTRACT gyF")
  k_with "call ref" => (k_here; (with_reducible show wpAny _ _ (call (Value.ref 57) _) _ _ _); k_dflt (refine' JB.C_from_jd _ _ _ ?J8k1 ?J8k2 ?J8k3 ?J8k4 ?J8k5 ?J8kK ?J8kp ?J8kd ?J8ku ?_; (case J8k1 => first | k_asm | ktn_no "jb: the frames below"); (case J8k2 => first | k_asm | ktn_no "jb: the frame"); (case J8k3 => first | k_asm | ktn_no "jb: the written part"); (case J8k4 => first | k_asm | ktn_no "jb: the ledger"); (case J8k5 => first | k_asm | ktn_no "jb: the top's facts"); (case J8kK => first | exact rfl | assumption | ktn_no "jb: the caller is no def"); (case J8kd => first | ktr_room | ktn_no "jb: the frames' room"); (case J8ku => first | ktr_units | ktn_no "jb: the C units"); (case J8kp => first | (fail) | trivial | ((try dsimp only); first | with_reducible assumption | omega) | ktn_no "jb: what the claim asks"); intro D9 t1 t2 t3 k9 h9 tk9 F9 N9; (try dsimp only); (try k_fold)); walk_say "CONTRACT from_jd")
  k_with "eval Name" => (k_here; (with_reducible show wpAny _ _ (eval (Expr.Name (Str.ofString "jd") _) _) _ _ _); k_dflt (refine' PyProof.Rows.ld ?J9k1 ?J9k2 ?_; (case J9k1 => k_asm); (case J9k2 => assumption)))
  k_with "loadName" => (k_here; (with_reducible show wpAny _ _ (loadName _ (Str.ofString "jd")) _ _ _); k_dflt (refine' PyProof.Rows.ldn ?J10k1 ?J10k2 ?_; (case J10k1 => k_asm); (case J10k2 => assumption)))
  dsimp only [JCl, RVal, RTup]
  k_fill
  intros
  rename_i hpre hroom hunits hret
  have hp1 := hpre
  refine wpAny_call ?_
  k_dflt (refine' code_def ?k1 ?k2 ?k3 ?k4 ?k5 ?kA ?kF ?kK ?k6 ?k7 ?k8 ?k9 ?kB ?_ ?c2 ?c3 ?c4 ?c5; (case kA => exact rfl); (case kF => exact rfl); (case kK => assumption); (case k1 => k_asm); (case k2 => k_asm); (case k3 => k_asm); (case k4 => k_asm); (case k5 => k_asm); (case k6 => k_is); (case k7 => k_is); (case k8 => ktr_room); (case k9 => exact binds_K (by k_in) rfl (by k_is) rfl rfl rfl); (case c5 => decide); (case kB => exact locs rfl); (case c2 => exact rfl); (case c3 => exact rfl); (case c4 => exact rfl); k_whole; intro g' L' h' FG' F' N' B' X' T'; (try dsimp only); (try k_lift B'); (try k_fold))
  repeat' ((fail_if_success (with_reducible show wpAny _ _ (execs (Stmt.If (Expr.Name _ _) _ _ _ :: _) _) _ _ _)); (first | (k_unfold; (try dsimp only)) | (k_end; wrow_close) | walk1 | (dsimp only; walk1) | (leave1; walk_say "STEP leave1"; try dsimp only) | fail "no step"))
  have gJ := True.intro
  (rename PyProof.Rows.Fr _ _ _ _ => jF)
  (rename PyProof.Rows.News _ _ _ _ => jN)
  refine execs_cut1 (GCutS jF jN (fun m2 => (∃ v t, m2 (Str.ofString "jd") = some (.int v t) ∧ v = (if ev = true then n - 1 else n)))) ?_ ?_
  · k_steps
    all_goals ((rename PyProof.Rows.Fr _ _ _ _ => jF9); (rename PyProof.Rows.News _ _ _ _ => jN9); first | refine ⟨_, _, _, rfl, jF9, jN9, ⟨_, _, gJ, ?_⟩⟩ | refine ⟨_, _, _, rfl, jF9, jN9, ⟨_, _, rfl, ?_⟩⟩)
    all_goals first | exact JB.join_ev (by with_reducible assumption) | exact (if_pos (by with_reducible assumption)).symm | exact (if_neg (by with_reducible assumption)).symm | exact (if_neg (JB.ne_true (by with_reducible assumption))).symm
  intro s2 hP
  obtain ⟨h2, tk2, m2, hs2, F2, N2, ⟨vJ, tJ, gJ, eJ⟩⟩ := hP
  subst hs2
  subst eJ
  clear jF jN
  k_steps
  skip
  all_goals ((rename PyProof.Rows.Fr _ _ _ _ => jF); (rename PyProof.Rows.News _ _ _ _ => jN); refine tup_ret hret jF (by first | exact jN | exact news_skip jN) ?_ ?_ ?_)
  all_goals (law_clear; (rfl))
set_option maxRecDepth 100000 in
set_option maxHeartbeats 8000000 in
theorem C_e0 (w : World) (y : Int) (t_y : Tok) (ev : Bool) : JClE w 128 [.int y t_y, .bool ev] 11 (NGnd y 9 25)  := by
  k_with_none
  w_top off
  k_with "eval Name" => (k_here; (with_reducible show wpAny _ _ (eval (Expr.Name _ _) (envOf _ _ _ _ _)) _ _ _); (with_reducible rename Fr _ _ _ _ => kF); k_dflt (refine' name_K kF ?J1k1 ?J1k2 ?J1k3 ?_; (case J1k1 => k_asm); (case J1k2 => k_asm); (case J1k3 => k_is); k_whole))
  k_with "storeName" => (k_here; (with_reducible show wpAny _ _ (storeName _ _ (Value.int _ _)) _ _ _); k_dflt (refine' JB.store_int ?J2F ?J2N ?_ ?J2a ?J2b; (case J2F => k_asm); (case J2N => k_asm); (case J2a => rfl); (case J2b => rfl); k_whole; intro t h' F' N'; (try k_sweep)))
  k_with "eval Call" => (k_here; (with_reducible show wpAny _ _ (eval (Expr.Call (Expr.Name _ _) _ [] _) _) _ _ _); refine PyProof.Rows.Call_ ?_)
  k_with "call builtin:divmod" => (k_here; k_dflt (refine' JB.divmod_J ?J4k1 ?J4k2 ?J4k3 ?J4k4 ?_; (case J4k1 => k_asm); (case J4k2 => k_asm); (case J4k3 => decide); (case J4k4 => exact PyProof.noPylong_of_log2 (by decide +kernel)); intro D' h' F' N' l1; (try k_lt l1)))
  k_with "execs cons" => (k_here; (with_reducible show wpAny _ _ _ _ _ (Shared.mk _ _ _ (_ + 1 + 1 + 1) _)); (with_reducible refine JB.gen_toks ?_); intro tk)
  k_with "execs nil" => (k_here; (with_reducible show wpAny _ _ _ _ _ (Shared.mk _ _ _ (_ + 1 + 1 + 1) _)); (with_reducible refine JB.gen_toks ?_); intro tk)
  k_with "call ref" => (k_here; (with_reducible show wpAny _ _ (call (Value.ref 120) _) _ _ _); k_dflt (refine' JB.C_gyR _ _ _ _ _ _ _ ?J7k1 ?J7k2 ?J7k3 ?J7k4 ?J7k5 ?J7kK ?J7kp ?J7kd ?J7ku ?_; (case J7k1 => first | k_asm | ktn_no "jb: the frames below"); (case J7k2 => first | k_asm | ktn_no "jb: the frame"); (case J7k3 => first | k_asm | ktn_no "jb: the written part"); (case J7k4 => first | k_asm | ktn_no "jb: the ledger"); (case J7k5 => first | k_asm | ktn_no "jb: the top's facts"); (case J7kK => first | exact rfl | assumption | ktn_no "jb: the caller is no def"); (case J7kd => first | ktr_room | ktn_no "jb: the frames' room"); (case J7ku => first | ktr_units | ktn_no "jb: the C units"); (case J7kp => first | (exact ⟨by first | decide | with_reducible assumption, by with_reducible assumption⟩) | trivial | ((try dsimp only); first | with_reducible assumption | omega) | ktn_no "jb: what the claim asks"); intro e9 t9 xs9 g9 h9 tk9 F9 U9 R9; (try dsimp only); (try k_fold)); walk_say "CONTRACT gyR")
  dsimp only [JCl, JClE, RVal, RTup]
  k_fill
  intros
  rename_i hpre hroom hunits hret
  have hp1 := hpre
  refine wpAny_call ?_
  k_dflt (refine' code_def ?k1 ?k2 ?k3 ?k4 ?k5 ?kA ?kF ?kK ?k6 ?k7 ?k8 ?k9 ?kB ?_ ?c2 ?c3 ?c4 ?c5; (case kA => exact rfl); (case kF => exact rfl); (case kK => assumption); (case k1 => k_asm); (case k2 => k_asm); (case k3 => k_asm); (case k4 => k_asm); (case k5 => k_asm); (case k6 => k_is); (case k7 => k_is); (case k8 => ktr_room); (case k9 => exact binds_K (by k_in) rfl (by k_is) rfl rfl rfl); (case c5 => decide); (case kB => exact locs rfl); (case c2 => exact rfl); (case c3 => exact rfl); (case c4 => exact rfl); k_whole; intro g' L' h' FG' F' N' B' X' T'; (try dsimp only); (try k_lift B'); (try k_fold))
  k_steps
  skip
  all_goals ((rename Heap.UpToSlots _ _ => jU); (rename RaisedK _ _ _ _ _ _ _ _ => jR); exact hret _ _ _ _ _ _ (by with_reducible assumption) jU (raised_sub jR (by intro p hp; repeat (first | exact hp | apply List.mem_cons_of_mem))))
set_option maxRecDepth 100000 in
set_option maxHeartbeats 8000000 in
theorem C_h1 (w : World) (n : Int) (y : Int) (t_y : Tok) (ev : Bool) : JCl w 136 [.int y t_y, .bool ev] 11 (Gnd y (kmon 1 y) 14 n) (RTup (fy (if ev = true then n - 1 else n)) (fm (if ev = true then n - 1 else n)) (fd (if ev = true then n - 1 else n))) := by
  k_with_none
  w_top off
  k_with "eval Name" => (k_here; (with_reducible show wpAny _ _ (eval (Expr.Name _ _) (envOf _ _ _ _ _)) _ _ _); (with_reducible rename Fr _ _ _ _ => kF); k_dflt (refine' name_K kF ?J1k1 ?J1k2 ?J1k3 ?_; (case J1k1 => k_asm); (case J1k2 => k_asm); (case J1k3 => k_is); k_whole))
  k_with "storeName" => (k_here; (with_reducible show wpAny _ _ (storeName _ _ (Value.int _ _)) _ _ _); k_dflt (refine' JB.store_int ?J2F ?J2N ?_ ?J2a ?J2b; (case J2F => k_asm); (case J2N => k_asm); (case J2a => rfl); (case J2b => rfl); k_whole; intro t h' F' N'; (try k_sweep)))
  k_with "eval Call" => (k_here; (with_reducible show wpAny _ _ (eval (Expr.Call (Expr.Name _ _) _ [] _) _) _ _ _); refine PyProof.Rows.Call_ ?_)
  k_with "call builtin:divmod" => (k_here; k_dflt (refine' JB.divmod_J ?J4k1 ?J4k2 ?J4k3 ?J4k4 ?_; (case J4k1 => k_asm); (case J4k2 => k_asm); (case J4k3 => decide); (case J4k4 => exact PyProof.noPylong_of_log2 (by decide +kernel)); intro D' h' F' N' l1; (try k_lt l1)))
  k_with "execs cons" => (k_here; (with_reducible show wpAny _ _ _ _ _ (Shared.mk _ _ _ (_ + 1 + 1 + 1) _)); (with_reducible refine JB.gen_toks ?_); intro tk)
  k_with "execs nil" => (k_here; (with_reducible show wpAny _ _ _ _ _ (Shared.mk _ _ _ (_ + 1 + 1 + 1) _)); (with_reducible refine JB.gen_toks ?_); intro tk)
  k_with "call ref" => (k_here; (with_reducible show wpAny _ _ (call (Value.ref 120) _) _ _ _); k_dflt (refine' JB.C_gyF _ _ _ _ _ _ _ _ ?J7k1 ?J7k2 ?J7k3 ?J7k4 ?J7k5 ?J7kK ?J7kp ?J7kd ?J7ku ?_; (case J7k1 => first | k_asm | ktn_no "jb: the frames below"); (case J7k2 => first | k_asm | ktn_no "jb: the frame"); (case J7k3 => first | k_asm | ktn_no "jb: the written part"); (case J7k4 => first | k_asm | ktn_no "jb: the ledger"); (case J7k5 => first | k_asm | ktn_no "jb: the top's facts"); (case J7kK => first | exact rfl | assumption | ktn_no "jb: the caller is no def"); (case J7kd => first | ktr_room | ktn_no "jb: the frames' room"); (case J7ku => first | ktr_units | ktn_no "jb: the C units"); (case J7kp => first | (exact ⟨by first | decide | with_reducible assumption, by with_reducible assumption⟩) | trivial | ((try dsimp only); first | with_reducible assumption | omega) | ktn_no "jb: what the claim asks"); intro t9 h9 tk9 F9 N9; (try dsimp only); (try k_fold)); walk_say "CONTRACT gyF")
  k_with "call ref" => (k_here; (with_reducible show wpAny _ _ (call (Value.ref 57) _) _ _ _); k_dflt (refine' JB.C_from_jd _ _ _ ?J8k1 ?J8k2 ?J8k3 ?J8k4 ?J8k5 ?J8kK ?J8kp ?J8kd ?J8ku ?_; (case J8k1 => first | k_asm | ktn_no "jb: the frames below"); (case J8k2 => first | k_asm | ktn_no "jb: the frame"); (case J8k3 => first | k_asm | ktn_no "jb: the written part"); (case J8k4 => first | k_asm | ktn_no "jb: the ledger"); (case J8k5 => first | k_asm | ktn_no "jb: the top's facts"); (case J8kK => first | exact rfl | assumption | ktn_no "jb: the caller is no def"); (case J8kd => first | ktr_room | ktn_no "jb: the frames' room"); (case J8ku => first | ktr_units | ktn_no "jb: the C units"); (case J8kp => first | (fail) | trivial | ((try dsimp only); first | with_reducible assumption | omega) | ktn_no "jb: what the claim asks"); intro D9 t1 t2 t3 k9 h9 tk9 F9 N9; (try dsimp only); (try k_fold)); walk_say "CONTRACT from_jd")
  k_with "call ref" => (k_here; (with_reducible show wpAny _ _ (call (Value.ref 64) _) _ _ _); k_dflt (refine' JB.C_leap _ _ _ ?J9k1 ?J9k2 ?J9k3 ?J9k4 ?J9k5 ?J9kK ?J9kp ?J9kd ?J9ku ?_; (case J9k1 => first | k_asm | ktn_no "jb: the frames below"); (case J9k2 => first | k_asm | ktn_no "jb: the frame"); (case J9k3 => first | k_asm | ktn_no "jb: the written part"); (case J9k4 => first | k_asm | ktn_no "jb: the ledger"); (case J9k5 => first | k_asm | ktn_no "jb: the top's facts"); (case J9kK => first | exact rfl | assumption | ktn_no "jb: the caller is no def"); (case J9kd => first | ktr_room | ktn_no "jb: the frames' room"); (case J9ku => first | ktr_units | ktn_no "jb: the C units"); (case J9kp => first | (fail) | trivial | ((try dsimp only); first | with_reducible assumption | omega) | ktn_no "jb: what the claim asks"); intro t9 h9 tk9 F9 N9; (try dsimp only); (try k_fold)); walk_say "CONTRACT leap")
  k_with "eval Name" => (k_here; (with_reducible show wpAny _ _ (eval (Expr.Name (Str.ofString "jd") _) _) _ _ _); k_dflt (refine' PyProof.Rows.ld ?J10k1 ?J10k2 ?_; (case J10k1 => k_asm); (case J10k2 => assumption)))
  k_with "loadName" => (k_here; (with_reducible show wpAny _ _ (loadName _ (Str.ofString "jd")) _ _ _); k_dflt (refine' PyProof.Rows.ldn ?J11k1 ?J11k2 ?_; (case J11k1 => k_asm); (case J11k2 => assumption)))
  k_with "call ref" => (k_here; (with_reducible show wpAny _ _ (call (Value.ref 120) _) _ _ _); k_dflt (refine' JB.C_gyF _ _ _ _ _ _ _ _ ?J12k1 ?J12k2 ?J12k3 ?J12k4 ?J12k5 ?J12kK ?J12kp ?J12kd ?J12ku ?_; (case J12k1 => first | k_asm | ktn_no "jb: the frames below"); (case J12k2 => first | k_asm | ktn_no "jb: the frame"); (case J12k3 => first | k_asm | ktn_no "jb: the written part"); (case J12k4 => first | k_asm | ktn_no "jb: the ledger"); (case J12k5 => first | k_asm | ktn_no "jb: the top's facts"); (case J12kK => first | exact rfl | assumption | ktn_no "jb: the caller is no def"); (case J12kd => first | ktr_room | ktn_no "jb: the frames' room"); (case J12ku => first | ktr_units | ktn_no "jb: the C units"); (case J12kp => first | (refine ⟨by decide, ?_⟩; with_reducible first | exact JB.gnd_1n (by with_reducible assumption) (by with_reducible assumption) | exact JB.gnd_1l (by with_reducible assumption) (by with_reducible assumption)) | trivial | ((try dsimp only); first | with_reducible assumption | omega) | ktn_no "jb: what the claim asks"); intro t9 h9 tk9 F9 N9; (try dsimp only); (try k_fold)); walk_say "CONTRACT gyF")
  dsimp only [JCl, RVal, RTup]
  k_fill
  intros
  rename_i hpre hroom hunits hret
  have hp1 := hpre
  refine wpAny_call ?_
  k_dflt (refine' code_def ?k1 ?k2 ?k3 ?k4 ?k5 ?kA ?kF ?kK ?k6 ?k7 ?k8 ?k9 ?kB ?_ ?c2 ?c3 ?c4 ?c5; (case kA => exact rfl); (case kF => exact rfl); (case kK => assumption); (case k1 => k_asm); (case k2 => k_asm); (case k3 => k_asm); (case k4 => k_asm); (case k5 => k_asm); (case k6 => k_is); (case k7 => k_is); (case k8 => ktr_room); (case k9 => exact binds_K (by k_in) rfl (by k_is) rfl rfl rfl); (case c5 => decide); (case kB => exact locs rfl); (case c2 => exact rfl); (case c3 => exact rfl); (case c4 => exact rfl); k_whole; intro g' L' h' FG' F' N' B' X' T'; (try dsimp only); (try k_lift B'); (try k_fold))
  repeat' ((fail_if_success (with_reducible show wpAny _ _ (execs (Stmt.If (Expr.Name _ _) _ _ _ :: _) _) _ _ _)); (first | (k_unfold; (try dsimp only)) | (k_end; wrow_close) | walk1 | (dsimp only; walk1) | (leave1; walk_say "STEP leave1"; try dsimp only) | fail "no step"))
  all_goals (
  have gJ := True.intro
  (rename PyProof.Rows.Fr _ _ _ _ => jF)
  (rename PyProof.Rows.News _ _ _ _ => jN)
  refine execs_cut1 (GCutS jF jN (fun m2 => (∃ v t, m2 (Str.ofString "jd") = some (.int v t) ∧ v = (if ev = true then n - 1 else n)))) ?_ ?_
  · k_steps
    all_goals ((rename PyProof.Rows.Fr _ _ _ _ => jF9); (rename PyProof.Rows.News _ _ _ _ => jN9); first | refine ⟨_, _, _, rfl, jF9, jN9, ⟨_, _, gJ, ?_⟩⟩ | refine ⟨_, _, _, rfl, jF9, jN9, ⟨_, _, rfl, ?_⟩⟩)
    all_goals first | exact JB.join_ev (by with_reducible assumption) | exact (if_pos (by with_reducible assumption)).symm | exact (if_neg (by with_reducible assumption)).symm | exact (if_neg (JB.ne_true (by with_reducible assumption))).symm
  intro s2 hP
  obtain ⟨h2, tk2, m2, hs2, F2, N2, ⟨vJ, tJ, gJ, eJ⟩⟩ := hP
  subst hs2
  subst eJ
  clear jF jN
  k_steps)
  skip
  all_goals ((rename PyProof.Rows.Fr _ _ _ _ => jF); (rename PyProof.Rows.News _ _ _ _ => jN); refine tup_ret hret jF (by first | exact jN | exact news_skip jN) ?_ ?_ ?_)
  all_goals (law_clear; (rfl))
set_option maxRecDepth 100000 in
set_option maxHeartbeats 8000000 in
theorem C_e1 (w : World) (y : Int) (t_y : Tok) (ev : Bool) : JClE w 136 [.int y t_y, .bool ev] 11 (NGnd y (kmon 1 y) 14)  := by
  k_with_none
  w_top off
  k_with "eval Name" => (k_here; (with_reducible show wpAny _ _ (eval (Expr.Name _ _) (envOf _ _ _ _ _)) _ _ _); (with_reducible rename Fr _ _ _ _ => kF); k_dflt (refine' name_K kF ?J1k1 ?J1k2 ?J1k3 ?_; (case J1k1 => k_asm); (case J1k2 => k_asm); (case J1k3 => k_is); k_whole))
  k_with "storeName" => (k_here; (with_reducible show wpAny _ _ (storeName _ _ (Value.int _ _)) _ _ _); k_dflt (refine' JB.store_int ?J2F ?J2N ?_ ?J2a ?J2b; (case J2F => k_asm); (case J2N => k_asm); (case J2a => rfl); (case J2b => rfl); k_whole; intro t h' F' N'; (try k_sweep)))
  k_with "eval Call" => (k_here; (with_reducible show wpAny _ _ (eval (Expr.Call (Expr.Name _ _) _ [] _) _) _ _ _); refine PyProof.Rows.Call_ ?_)
  k_with "call builtin:divmod" => (k_here; k_dflt (refine' JB.divmod_J ?J4k1 ?J4k2 ?J4k3 ?J4k4 ?_; (case J4k1 => k_asm); (case J4k2 => k_asm); (case J4k3 => decide); (case J4k4 => exact PyProof.noPylong_of_log2 (by decide +kernel)); intro D' h' F' N' l1; (try k_lt l1)))
  k_with "execs cons" => (k_here; (with_reducible show wpAny _ _ _ _ _ (Shared.mk _ _ _ (_ + 1 + 1 + 1) _)); (with_reducible refine JB.gen_toks ?_); intro tk)
  k_with "execs nil" => (k_here; (with_reducible show wpAny _ _ _ _ _ (Shared.mk _ _ _ (_ + 1 + 1 + 1) _)); (with_reducible refine JB.gen_toks ?_); intro tk)
  k_with "call ref" => (k_here; (with_reducible show wpAny _ _ (call (Value.ref 120) _) _ _ _); k_dflt (refine' JB.C_gyR _ _ _ _ _ _ _ ?J7k1 ?J7k2 ?J7k3 ?J7k4 ?J7k5 ?J7kK ?J7kp ?J7kd ?J7ku ?_; (case J7k1 => first | k_asm | ktn_no "jb: the frames below"); (case J7k2 => first | k_asm | ktn_no "jb: the frame"); (case J7k3 => first | k_asm | ktn_no "jb: the written part"); (case J7k4 => first | k_asm | ktn_no "jb: the ledger"); (case J7k5 => first | k_asm | ktn_no "jb: the top's facts"); (case J7kK => first | exact rfl | assumption | ktn_no "jb: the caller is no def"); (case J7kd => first | ktr_room | ktn_no "jb: the frames' room"); (case J7ku => first | ktr_units | ktn_no "jb: the C units"); (case J7kp => first | (exact ⟨by first | decide | with_reducible assumption, by with_reducible assumption⟩) | trivial | ((try dsimp only); first | with_reducible assumption | omega) | ktn_no "jb: what the claim asks"); intro e9 t9 xs9 g9 h9 tk9 F9 U9 R9; (try dsimp only); (try k_fold)); walk_say "CONTRACT gyR")
  k_with "call ref" => (k_here; (with_reducible show wpAny _ _ (call (Value.ref 64) _) _ _ _); k_dflt (refine' JB.C_leap _ _ _ ?J8k1 ?J8k2 ?J8k3 ?J8k4 ?J8k5 ?J8kK ?J8kp ?J8kd ?J8ku ?_; (case J8k1 => first | k_asm | ktn_no "jb: the frames below"); (case J8k2 => first | k_asm | ktn_no "jb: the frame"); (case J8k3 => first | k_asm | ktn_no "jb: the written part"); (case J8k4 => first | k_asm | ktn_no "jb: the ledger"); (case J8k5 => first | k_asm | ktn_no "jb: the top's facts"); (case J8kK => first | exact rfl | assumption | ktn_no "jb: the caller is no def"); (case J8kd => first | ktr_room | ktn_no "jb: the frames' room"); (case J8ku => first | ktr_units | ktn_no "jb: the C units"); (case J8kp => first | (fail) | trivial | ((try dsimp only); first | with_reducible assumption | omega) | ktn_no "jb: what the claim asks"); intro t9 h9 tk9 F9 N9; (try dsimp only); (try k_fold)); walk_say "CONTRACT leap")
  k_with "call ref" => (k_here; (with_reducible show wpAny _ _ (call (Value.ref 120) _) _ _ _); k_dflt (refine' JB.C_gyR _ _ _ _ _ _ _ ?J9k1 ?J9k2 ?J9k3 ?J9k4 ?J9k5 ?J9kK ?J9kp ?J9kd ?J9ku ?_; (case J9k1 => first | k_asm | ktn_no "jb: the frames below"); (case J9k2 => first | k_asm | ktn_no "jb: the frame"); (case J9k3 => first | k_asm | ktn_no "jb: the written part"); (case J9k4 => first | k_asm | ktn_no "jb: the ledger"); (case J9k5 => first | k_asm | ktn_no "jb: the top's facts"); (case J9kK => first | exact rfl | assumption | ktn_no "jb: the caller is no def"); (case J9kd => first | ktr_room | ktn_no "jb: the frames' room"); (case J9ku => first | ktr_units | ktn_no "jb: the C units"); (case J9kp => first | (refine ⟨by decide, ?_⟩; with_reducible first | exact JB.ngnd_1n (by with_reducible assumption) (by with_reducible assumption) | exact JB.ngnd_1l (by with_reducible assumption) (by with_reducible assumption)) | trivial | ((try dsimp only); first | with_reducible assumption | omega) | ktn_no "jb: what the claim asks"); intro e9 t9 xs9 g9 h9 tk9 F9 U9 R9; (try dsimp only); (try k_fold)); walk_say "CONTRACT gyR")
  dsimp only [JCl, JClE, RVal, RTup]
  k_fill
  intros
  rename_i hpre hroom hunits hret
  have hp1 := hpre
  refine wpAny_call ?_
  k_dflt (refine' code_def ?k1 ?k2 ?k3 ?k4 ?k5 ?kA ?kF ?kK ?k6 ?k7 ?k8 ?k9 ?kB ?_ ?c2 ?c3 ?c4 ?c5; (case kA => exact rfl); (case kF => exact rfl); (case kK => assumption); (case k1 => k_asm); (case k2 => k_asm); (case k3 => k_asm); (case k4 => k_asm); (case k5 => k_asm); (case k6 => k_is); (case k7 => k_is); (case k8 => ktr_room); (case k9 => exact binds_K (by k_in) rfl (by k_is) rfl rfl rfl); (case c5 => decide); (case kB => exact locs rfl); (case c2 => exact rfl); (case c3 => exact rfl); (case c4 => exact rfl); k_whole; intro g' L' h' FG' F' N' B' X' T'; (try dsimp only); (try k_lift B'); (try k_fold))
  k_steps
  skip
  all_goals ((rename Heap.UpToSlots _ _ => jU); (rename RaisedK _ _ _ _ _ _ _ _ => jR); exact hret _ _ _ _ _ _ (by with_reducible assumption) jU (raised_sub jR (by intro p hp; repeat (first | exact hp | apply List.mem_cons_of_mem))))
set_option maxRecDepth 100000 in
set_option maxHeartbeats 8000000 in
theorem C_h2 (w : World) (n : Int) (y : Int) (t_y : Tok) (ev : Bool) : JCl w 144 [.int y t_y, .bool ev] 11 (Gnd y 7 1 n) (RTup (fy (if ev = true then n - 1 else n)) (fm (if ev = true then n - 1 else n)) (fd (if ev = true then n - 1 else n))) := by
  k_with_none
  w_top off
  k_with "eval Name" => (k_here; (with_reducible show wpAny _ _ (eval (Expr.Name _ _) (envOf _ _ _ _ _)) _ _ _); (with_reducible rename Fr _ _ _ _ => kF); k_dflt (refine' name_K kF ?J1k1 ?J1k2 ?J1k3 ?_; (case J1k1 => k_asm); (case J1k2 => k_asm); (case J1k3 => k_is); k_whole))
  k_with "storeName" => (k_here; (with_reducible show wpAny _ _ (storeName _ _ (Value.int _ _)) _ _ _); k_dflt (refine' JB.store_int ?J2F ?J2N ?_ ?J2a ?J2b; (case J2F => k_asm); (case J2N => k_asm); (case J2a => rfl); (case J2b => rfl); k_whole; intro t h' F' N'; (try k_sweep)))
  k_with "eval Call" => (k_here; (with_reducible show wpAny _ _ (eval (Expr.Call (Expr.Name _ _) _ [] _) _) _ _ _); refine PyProof.Rows.Call_ ?_)
  k_with "call builtin:divmod" => (k_here; k_dflt (refine' JB.divmod_J ?J4k1 ?J4k2 ?J4k3 ?J4k4 ?_; (case J4k1 => k_asm); (case J4k2 => k_asm); (case J4k3 => decide); (case J4k4 => exact PyProof.noPylong_of_log2 (by decide +kernel)); intro D' h' F' N' l1; (try k_lt l1)))
  k_with "execs cons" => (k_here; (with_reducible show wpAny _ _ _ _ _ (Shared.mk _ _ _ (_ + 1 + 1 + 1) _)); (with_reducible refine JB.gen_toks ?_); intro tk)
  k_with "execs nil" => (k_here; (with_reducible show wpAny _ _ _ _ _ (Shared.mk _ _ _ (_ + 1 + 1 + 1) _)); (with_reducible refine JB.gen_toks ?_); intro tk)
  k_with "call ref" => (k_here; (with_reducible show wpAny _ _ (call (Value.ref 120) _) _ _ _); k_dflt (refine' JB.C_gyF _ _ _ _ _ _ _ _ ?J7k1 ?J7k2 ?J7k3 ?J7k4 ?J7k5 ?J7kK ?J7kp ?J7kd ?J7ku ?_; (case J7k1 => first | k_asm | ktn_no "jb: the frames below"); (case J7k2 => first | k_asm | ktn_no "jb: the frame"); (case J7k3 => first | k_asm | ktn_no "jb: the written part"); (case J7k4 => first | k_asm | ktn_no "jb: the ledger"); (case J7k5 => first | k_asm | ktn_no "jb: the top's facts"); (case J7kK => first | exact rfl | assumption | ktn_no "jb: the caller is no def"); (case J7kd => first | ktr_room | ktn_no "jb: the frames' room"); (case J7ku => first | ktr_units | ktn_no "jb: the C units"); (case J7kp => first | (exact ⟨by first | decide | with_reducible assumption, by with_reducible assumption⟩) | trivial | ((try dsimp only); first | with_reducible assumption | omega) | ktn_no "jb: what the claim asks"); intro t9 h9 tk9 F9 N9; (try dsimp only); (try k_fold)); walk_say "CONTRACT gyF")
  k_with "call ref" => (k_here; (with_reducible show wpAny _ _ (call (Value.ref 57) _) _ _ _); k_dflt (refine' JB.C_from_jd _ _ _ ?J8k1 ?J8k2 ?J8k3 ?J8k4 ?J8k5 ?J8kK ?J8kp ?J8kd ?J8ku ?_; (case J8k1 => first | k_asm | ktn_no "jb: the frames below"); (case J8k2 => first | k_asm | ktn_no "jb: the frame"); (case J8k3 => first | k_asm | ktn_no "jb: the written part"); (case J8k4 => first | k_asm | ktn_no "jb: the ledger"); (case J8k5 => first | k_asm | ktn_no "jb: the top's facts"); (case J8kK => first | exact rfl | assumption | ktn_no "jb: the caller is no def"); (case J8kd => first | ktr_room | ktn_no "jb: the frames' room"); (case J8ku => first | ktr_units | ktn_no "jb: the C units"); (case J8kp => first | (fail) | trivial | ((try dsimp only); first | with_reducible assumption | omega) | ktn_no "jb: what the claim asks"); intro D9 t1 t2 t3 k9 h9 tk9 F9 N9; (try dsimp only); (try k_fold)); walk_say "CONTRACT from_jd")
  k_with "eval Name" => (k_here; (with_reducible show wpAny _ _ (eval (Expr.Name (Str.ofString "jd") _) _) _ _ _); k_dflt (refine' PyProof.Rows.ld ?J9k1 ?J9k2 ?_; (case J9k1 => k_asm); (case J9k2 => assumption)))
  k_with "loadName" => (k_here; (with_reducible show wpAny _ _ (loadName _ (Str.ofString "jd")) _ _ _); k_dflt (refine' PyProof.Rows.ldn ?J10k1 ?J10k2 ?_; (case J10k1 => k_asm); (case J10k2 => assumption)))
  dsimp only [JCl, RVal, RTup]
  k_fill
  intros
  rename_i hpre hroom hunits hret
  have hp1 := hpre
  refine wpAny_call ?_
  k_dflt (refine' code_def ?k1 ?k2 ?k3 ?k4 ?k5 ?kA ?kF ?kK ?k6 ?k7 ?k8 ?k9 ?kB ?_ ?c2 ?c3 ?c4 ?c5; (case kA => exact rfl); (case kF => exact rfl); (case kK => assumption); (case k1 => k_asm); (case k2 => k_asm); (case k3 => k_asm); (case k4 => k_asm); (case k5 => k_asm); (case k6 => k_is); (case k7 => k_is); (case k8 => ktr_room); (case k9 => exact binds_K (by k_in) rfl (by k_is) rfl rfl rfl); (case c5 => decide); (case kB => exact locs rfl); (case c2 => exact rfl); (case c3 => exact rfl); (case c4 => exact rfl); k_whole; intro g' L' h' FG' F' N' B' X' T'; (try dsimp only); (try k_lift B'); (try k_fold))
  repeat' ((fail_if_success (with_reducible show wpAny _ _ (execs (Stmt.If (Expr.Name _ _) _ _ _ :: _) _) _ _ _)); (first | (k_unfold; (try dsimp only)) | (k_end; wrow_close) | walk1 | (dsimp only; walk1) | (leave1; walk_say "STEP leave1"; try dsimp only) | fail "no step"))
  have gJ := True.intro
  (rename PyProof.Rows.Fr _ _ _ _ => jF)
  (rename PyProof.Rows.News _ _ _ _ => jN)
  refine execs_cut1 (GCutS jF jN (fun m2 => (∃ v t, m2 (Str.ofString "jd") = some (.int v t) ∧ v = (if ev = true then n - 1 else n)))) ?_ ?_
  · k_steps
    all_goals ((rename PyProof.Rows.Fr _ _ _ _ => jF9); (rename PyProof.Rows.News _ _ _ _ => jN9); first | refine ⟨_, _, _, rfl, jF9, jN9, ⟨_, _, gJ, ?_⟩⟩ | refine ⟨_, _, _, rfl, jF9, jN9, ⟨_, _, rfl, ?_⟩⟩)
    all_goals first | exact JB.join_ev (by with_reducible assumption) | exact (if_pos (by with_reducible assumption)).symm | exact (if_neg (by with_reducible assumption)).symm | exact (if_neg (JB.ne_true (by with_reducible assumption))).symm
  intro s2 hP
  obtain ⟨h2, tk2, m2, hs2, F2, N2, ⟨vJ, tJ, gJ, eJ⟩⟩ := hP
  subst hs2
  subst eJ
  clear jF jN
  k_steps
  skip
  all_goals ((rename PyProof.Rows.Fr _ _ _ _ => jF); (rename PyProof.Rows.News _ _ _ _ => jN); refine tup_ret hret jF (by first | exact jN | exact news_skip jN) ?_ ?_ ?_)
  all_goals (law_clear; (rfl))
set_option maxRecDepth 100000 in
set_option maxHeartbeats 8000000 in
theorem C_e2 (w : World) (y : Int) (t_y : Tok) (ev : Bool) : JClE w 144 [.int y t_y, .bool ev] 11 (NGnd y 7 1)  := by
  k_with_none
  w_top off
  k_with "eval Name" => (k_here; (with_reducible show wpAny _ _ (eval (Expr.Name _ _) (envOf _ _ _ _ _)) _ _ _); (with_reducible rename Fr _ _ _ _ => kF); k_dflt (refine' name_K kF ?J1k1 ?J1k2 ?J1k3 ?_; (case J1k1 => k_asm); (case J1k2 => k_asm); (case J1k3 => k_is); k_whole))
  k_with "storeName" => (k_here; (with_reducible show wpAny _ _ (storeName _ _ (Value.int _ _)) _ _ _); k_dflt (refine' JB.store_int ?J2F ?J2N ?_ ?J2a ?J2b; (case J2F => k_asm); (case J2N => k_asm); (case J2a => rfl); (case J2b => rfl); k_whole; intro t h' F' N'; (try k_sweep)))
  k_with "eval Call" => (k_here; (with_reducible show wpAny _ _ (eval (Expr.Call (Expr.Name _ _) _ [] _) _) _ _ _); refine PyProof.Rows.Call_ ?_)
  k_with "call builtin:divmod" => (k_here; k_dflt (refine' JB.divmod_J ?J4k1 ?J4k2 ?J4k3 ?J4k4 ?_; (case J4k1 => k_asm); (case J4k2 => k_asm); (case J4k3 => decide); (case J4k4 => exact PyProof.noPylong_of_log2 (by decide +kernel)); intro D' h' F' N' l1; (try k_lt l1)))
  k_with "execs cons" => (k_here; (with_reducible show wpAny _ _ _ _ _ (Shared.mk _ _ _ (_ + 1 + 1 + 1) _)); (with_reducible refine JB.gen_toks ?_); intro tk)
  k_with "execs nil" => (k_here; (with_reducible show wpAny _ _ _ _ _ (Shared.mk _ _ _ (_ + 1 + 1 + 1) _)); (with_reducible refine JB.gen_toks ?_); intro tk)
  k_with "call ref" => (k_here; (with_reducible show wpAny _ _ (call (Value.ref 120) _) _ _ _); k_dflt (refine' JB.C_gyR _ _ _ _ _ _ _ ?J7k1 ?J7k2 ?J7k3 ?J7k4 ?J7k5 ?J7kK ?J7kp ?J7kd ?J7ku ?_; (case J7k1 => first | k_asm | ktn_no "jb: the frames below"); (case J7k2 => first | k_asm | ktn_no "jb: the frame"); (case J7k3 => first | k_asm | ktn_no "jb: the written part"); (case J7k4 => first | k_asm | ktn_no "jb: the ledger"); (case J7k5 => first | k_asm | ktn_no "jb: the top's facts"); (case J7kK => first | exact rfl | assumption | ktn_no "jb: the caller is no def"); (case J7kd => first | ktr_room | ktn_no "jb: the frames' room"); (case J7ku => first | ktr_units | ktn_no "jb: the C units"); (case J7kp => first | (exact ⟨by first | decide | with_reducible assumption, by with_reducible assumption⟩) | trivial | ((try dsimp only); first | with_reducible assumption | omega) | ktn_no "jb: what the claim asks"); intro e9 t9 xs9 g9 h9 tk9 F9 U9 R9; (try dsimp only); (try k_fold)); walk_say "CONTRACT gyR")
  dsimp only [JCl, JClE, RVal, RTup]
  k_fill
  intros
  rename_i hpre hroom hunits hret
  have hp1 := hpre
  refine wpAny_call ?_
  k_dflt (refine' code_def ?k1 ?k2 ?k3 ?k4 ?k5 ?kA ?kF ?kK ?k6 ?k7 ?k8 ?k9 ?kB ?_ ?c2 ?c3 ?c4 ?c5; (case kA => exact rfl); (case kF => exact rfl); (case kK => assumption); (case k1 => k_asm); (case k2 => k_asm); (case k3 => k_asm); (case k4 => k_asm); (case k5 => k_asm); (case k6 => k_is); (case k7 => k_is); (case k8 => ktr_room); (case k9 => exact binds_K (by k_in) rfl (by k_is) rfl rfl rfl); (case c5 => decide); (case kB => exact locs rfl); (case c2 => exact rfl); (case c3 => exact rfl); (case c4 => exact rfl); k_whole; intro g' L' h' FG' F' N' B' X' T'; (try dsimp only); (try k_lift B'); (try k_fold))
  k_steps
  skip
  all_goals ((rename Heap.UpToSlots _ _ => jU); (rename RaisedK _ _ _ _ _ _ _ _ => jR); exact hret _ _ _ _ _ _ (by with_reducible assumption) jU (raised_sub jR (by intro p hp; repeat (first | exact hp | apply List.mem_cons_of_mem))))
set_option maxRecDepth 100000 in
set_option maxHeartbeats 8000000 in
theorem C_h3 (w : World) (n : Int) (y : Int) (t_y : Tok) (ev : Bool) : JCl w 152 [.int y t_y, .bool ev] 11 (Gnd y 7 10 n) (RTup (fy (if ev = true then n - 1 else n)) (fm (if ev = true then n - 1 else n)) (fd (if ev = true then n - 1 else n))) := by
  k_with_none
  w_top off
  k_with "eval Name" => (k_here; (with_reducible show wpAny _ _ (eval (Expr.Name _ _) (envOf _ _ _ _ _)) _ _ _); (with_reducible rename Fr _ _ _ _ => kF); k_dflt (refine' name_K kF ?J1k1 ?J1k2 ?J1k3 ?_; (case J1k1 => k_asm); (case J1k2 => k_asm); (case J1k3 => k_is); k_whole))
  k_with "storeName" => (k_here; (with_reducible show wpAny _ _ (storeName _ _ (Value.int _ _)) _ _ _); k_dflt (refine' JB.store_int ?J2F ?J2N ?_ ?J2a ?J2b; (case J2F => k_asm); (case J2N => k_asm); (case J2a => rfl); (case J2b => rfl); k_whole; intro t h' F' N'; (try k_sweep)))
  k_with "eval Call" => (k_here; (with_reducible show wpAny _ _ (eval (Expr.Call (Expr.Name _ _) _ [] _) _) _ _ _); refine PyProof.Rows.Call_ ?_)
  k_with "call builtin:divmod" => (k_here; k_dflt (refine' JB.divmod_J ?J4k1 ?J4k2 ?J4k3 ?J4k4 ?_; (case J4k1 => k_asm); (case J4k2 => k_asm); (case J4k3 => decide); (case J4k4 => exact PyProof.noPylong_of_log2 (by decide +kernel)); intro D' h' F' N' l1; (try k_lt l1)))
  k_with "execs cons" => (k_here; (with_reducible show wpAny _ _ _ _ _ (Shared.mk _ _ _ (_ + 1 + 1 + 1) _)); (with_reducible refine JB.gen_toks ?_); intro tk)
  k_with "execs nil" => (k_here; (with_reducible show wpAny _ _ _ _ _ (Shared.mk _ _ _ (_ + 1 + 1 + 1) _)); (with_reducible refine JB.gen_toks ?_); intro tk)
  k_with "call ref" => (k_here; (with_reducible show wpAny _ _ (call (Value.ref 120) _) _ _ _); k_dflt (refine' JB.C_gyF _ _ _ _ _ _ _ _ ?J7k1 ?J7k2 ?J7k3 ?J7k4 ?J7k5 ?J7kK ?J7kp ?J7kd ?J7ku ?_; (case J7k1 => first | k_asm | ktn_no "jb: the frames below"); (case J7k2 => first | k_asm | ktn_no "jb: the frame"); (case J7k3 => first | k_asm | ktn_no "jb: the written part"); (case J7k4 => first | k_asm | ktn_no "jb: the ledger"); (case J7k5 => first | k_asm | ktn_no "jb: the top's facts"); (case J7kK => first | exact rfl | assumption | ktn_no "jb: the caller is no def"); (case J7kd => first | ktr_room | ktn_no "jb: the frames' room"); (case J7ku => first | ktr_units | ktn_no "jb: the C units"); (case J7kp => first | (exact ⟨by first | decide | with_reducible assumption, by with_reducible assumption⟩) | trivial | ((try dsimp only); first | with_reducible assumption | omega) | ktn_no "jb: what the claim asks"); intro t9 h9 tk9 F9 N9; (try dsimp only); (try k_fold)); walk_say "CONTRACT gyF")
  k_with "call ref" => (k_here; (with_reducible show wpAny _ _ (call (Value.ref 57) _) _ _ _); k_dflt (refine' JB.C_from_jd _ _ _ ?J8k1 ?J8k2 ?J8k3 ?J8k4 ?J8k5 ?J8kK ?J8kp ?J8kd ?J8ku ?_; (case J8k1 => first | k_asm | ktn_no "jb: the frames below"); (case J8k2 => first | k_asm | ktn_no "jb: the frame"); (case J8k3 => first | k_asm | ktn_no "jb: the written part"); (case J8k4 => first | k_asm | ktn_no "jb: the ledger"); (case J8k5 => first | k_asm | ktn_no "jb: the top's facts"); (case J8kK => first | exact rfl | assumption | ktn_no "jb: the caller is no def"); (case J8kd => first | ktr_room | ktn_no "jb: the frames' room"); (case J8ku => first | ktr_units | ktn_no "jb: the C units"); (case J8kp => first | (fail) | trivial | ((try dsimp only); first | with_reducible assumption | omega) | ktn_no "jb: what the claim asks"); intro D9 t1 t2 t3 k9 h9 tk9 F9 N9; (try dsimp only); (try k_fold)); walk_say "CONTRACT from_jd")
  k_with "eval Name" => (k_here; (with_reducible show wpAny _ _ (eval (Expr.Name (Str.ofString "jd") _) _) _ _ _); k_dflt (refine' PyProof.Rows.ld ?J9k1 ?J9k2 ?_; (case J9k1 => k_asm); (case J9k2 => assumption)))
  k_with "loadName" => (k_here; (with_reducible show wpAny _ _ (loadName _ (Str.ofString "jd")) _ _ _); k_dflt (refine' PyProof.Rows.ldn ?J10k1 ?J10k2 ?_; (case J10k1 => k_asm); (case J10k2 => assumption)))
  dsimp only [JCl, RVal, RTup]
  k_fill
  intros
  rename_i hpre hroom hunits hret
  have hp1 := hpre
  refine wpAny_call ?_
  k_dflt (refine' code_def ?k1 ?k2 ?k3 ?k4 ?k5 ?kA ?kF ?kK ?k6 ?k7 ?k8 ?k9 ?kB ?_ ?c2 ?c3 ?c4 ?c5; (case kA => exact rfl); (case kF => exact rfl); (case kK => assumption); (case k1 => k_asm); (case k2 => k_asm); (case k3 => k_asm); (case k4 => k_asm); (case k5 => k_asm); (case k6 => k_is); (case k7 => k_is); (case k8 => ktr_room); (case k9 => exact binds_K (by k_in) rfl (by k_is) rfl rfl rfl); (case c5 => decide); (case kB => exact locs rfl); (case c2 => exact rfl); (case c3 => exact rfl); (case c4 => exact rfl); k_whole; intro g' L' h' FG' F' N' B' X' T'; (try dsimp only); (try k_lift B'); (try k_fold))
  repeat' ((fail_if_success (with_reducible show wpAny _ _ (execs (Stmt.If (Expr.Name _ _) _ _ _ :: _) _) _ _ _)); (first | (k_unfold; (try dsimp only)) | (k_end; wrow_close) | walk1 | (dsimp only; walk1) | (leave1; walk_say "STEP leave1"; try dsimp only) | fail "no step"))
  have gJ := True.intro
  (rename PyProof.Rows.Fr _ _ _ _ => jF)
  (rename PyProof.Rows.News _ _ _ _ => jN)
  refine execs_cut1 (GCutS jF jN (fun m2 => (∃ v t, m2 (Str.ofString "jd") = some (.int v t) ∧ v = (if ev = true then n - 1 else n)))) ?_ ?_
  · k_steps
    all_goals ((rename PyProof.Rows.Fr _ _ _ _ => jF9); (rename PyProof.Rows.News _ _ _ _ => jN9); first | refine ⟨_, _, _, rfl, jF9, jN9, ⟨_, _, gJ, ?_⟩⟩ | refine ⟨_, _, _, rfl, jF9, jN9, ⟨_, _, rfl, ?_⟩⟩)
    all_goals first | exact JB.join_ev (by with_reducible assumption) | exact (if_pos (by with_reducible assumption)).symm | exact (if_neg (by with_reducible assumption)).symm | exact (if_neg (JB.ne_true (by with_reducible assumption))).symm
  intro s2 hP
  obtain ⟨h2, tk2, m2, hs2, F2, N2, ⟨vJ, tJ, gJ, eJ⟩⟩ := hP
  subst hs2
  subst eJ
  clear jF jN
  k_steps
  skip
  all_goals ((rename PyProof.Rows.Fr _ _ _ _ => jF); (rename PyProof.Rows.News _ _ _ _ => jN); refine tup_ret hret jF (by first | exact jN | exact news_skip jN) ?_ ?_ ?_)
  all_goals (law_clear; (rfl))
set_option maxRecDepth 100000 in
set_option maxHeartbeats 8000000 in
theorem C_e3 (w : World) (y : Int) (t_y : Tok) (ev : Bool) : JClE w 152 [.int y t_y, .bool ev] 11 (NGnd y 7 10)  := by
  k_with_none
  w_top off
  k_with "eval Name" => (k_here; (with_reducible show wpAny _ _ (eval (Expr.Name _ _) (envOf _ _ _ _ _)) _ _ _); (with_reducible rename Fr _ _ _ _ => kF); k_dflt (refine' name_K kF ?J1k1 ?J1k2 ?J1k3 ?_; (case J1k1 => k_asm); (case J1k2 => k_asm); (case J1k3 => k_is); k_whole))
  k_with "storeName" => (k_here; (with_reducible show wpAny _ _ (storeName _ _ (Value.int _ _)) _ _ _); k_dflt (refine' JB.store_int ?J2F ?J2N ?_ ?J2a ?J2b; (case J2F => k_asm); (case J2N => k_asm); (case J2a => rfl); (case J2b => rfl); k_whole; intro t h' F' N'; (try k_sweep)))
  k_with "eval Call" => (k_here; (with_reducible show wpAny _ _ (eval (Expr.Call (Expr.Name _ _) _ [] _) _) _ _ _); refine PyProof.Rows.Call_ ?_)
  k_with "call builtin:divmod" => (k_here; k_dflt (refine' JB.divmod_J ?J4k1 ?J4k2 ?J4k3 ?J4k4 ?_; (case J4k1 => k_asm); (case J4k2 => k_asm); (case J4k3 => decide); (case J4k4 => exact PyProof.noPylong_of_log2 (by decide +kernel)); intro D' h' F' N' l1; (try k_lt l1)))
  k_with "execs cons" => (k_here; (with_reducible show wpAny _ _ _ _ _ (Shared.mk _ _ _ (_ + 1 + 1 + 1) _)); (with_reducible refine JB.gen_toks ?_); intro tk)
  k_with "execs nil" => (k_here; (with_reducible show wpAny _ _ _ _ _ (Shared.mk _ _ _ (_ + 1 + 1 + 1) _)); (with_reducible refine JB.gen_toks ?_); intro tk)
  k_with "call ref" => (k_here; (with_reducible show wpAny _ _ (call (Value.ref 120) _) _ _ _); k_dflt (refine' JB.C_gyR _ _ _ _ _ _ _ ?J7k1 ?J7k2 ?J7k3 ?J7k4 ?J7k5 ?J7kK ?J7kp ?J7kd ?J7ku ?_; (case J7k1 => first | k_asm | ktn_no "jb: the frames below"); (case J7k2 => first | k_asm | ktn_no "jb: the frame"); (case J7k3 => first | k_asm | ktn_no "jb: the written part"); (case J7k4 => first | k_asm | ktn_no "jb: the ledger"); (case J7k5 => first | k_asm | ktn_no "jb: the top's facts"); (case J7kK => first | exact rfl | assumption | ktn_no "jb: the caller is no def"); (case J7kd => first | ktr_room | ktn_no "jb: the frames' room"); (case J7ku => first | ktr_units | ktn_no "jb: the C units"); (case J7kp => first | (exact ⟨by first | decide | with_reducible assumption, by with_reducible assumption⟩) | trivial | ((try dsimp only); first | with_reducible assumption | omega) | ktn_no "jb: what the claim asks"); intro e9 t9 xs9 g9 h9 tk9 F9 U9 R9; (try dsimp only); (try k_fold)); walk_say "CONTRACT gyR")
  dsimp only [JCl, JClE, RVal, RTup]
  k_fill
  intros
  rename_i hpre hroom hunits hret
  have hp1 := hpre
  refine wpAny_call ?_
  k_dflt (refine' code_def ?k1 ?k2 ?k3 ?k4 ?k5 ?kA ?kF ?kK ?k6 ?k7 ?k8 ?k9 ?kB ?_ ?c2 ?c3 ?c4 ?c5; (case kA => exact rfl); (case kF => exact rfl); (case kK => assumption); (case k1 => k_asm); (case k2 => k_asm); (case k3 => k_asm); (case k4 => k_asm); (case k5 => k_asm); (case k6 => k_is); (case k7 => k_is); (case k8 => ktr_room); (case k9 => exact binds_K (by k_in) rfl (by k_is) rfl rfl rfl); (case c5 => decide); (case kB => exact locs rfl); (case c2 => exact rfl); (case c3 => exact rfl); (case c4 => exact rfl); k_whole; intro g' L' h' FG' F' N' B' X' T'; (try dsimp only); (try k_lift B'); (try k_fold))
  k_steps
  skip
  all_goals ((rename Heap.UpToSlots _ _ => jU); (rename RaisedK _ _ _ _ _ _ _ _ => jR); exact hret _ _ _ _ _ _ (by with_reducible assumption) jU (raised_sub jR (by intro p hp; repeat (first | exact hp | apply List.mem_cons_of_mem))))
set_option maxRecDepth 100000 in
set_option maxHeartbeats 8000000 in
theorem C_h4 (w : World) (n : Int) (y : Int) (t_y : Tok) (ev : Bool) : JCl w 160 [.int y t_y, .bool ev] 11 (Gnd y 1 15 n) (RTup (fy (if ev = true then n - 1 else n)) (fm (if ev = true then n - 1 else n)) (fd (if ev = true then n - 1 else n))) := by
  k_with_none
  w_top off
  k_with "eval Name" => (k_here; (with_reducible show wpAny _ _ (eval (Expr.Name _ _) (envOf _ _ _ _ _)) _ _ _); (with_reducible rename Fr _ _ _ _ => kF); k_dflt (refine' name_K kF ?J1k1 ?J1k2 ?J1k3 ?_; (case J1k1 => k_asm); (case J1k2 => k_asm); (case J1k3 => k_is); k_whole))
  k_with "storeName" => (k_here; (with_reducible show wpAny _ _ (storeName _ _ (Value.int _ _)) _ _ _); k_dflt (refine' JB.store_int ?J2F ?J2N ?_ ?J2a ?J2b; (case J2F => k_asm); (case J2N => k_asm); (case J2a => rfl); (case J2b => rfl); k_whole; intro t h' F' N'; (try k_sweep)))
  k_with "eval Call" => (k_here; (with_reducible show wpAny _ _ (eval (Expr.Call (Expr.Name _ _) _ [] _) _) _ _ _); refine PyProof.Rows.Call_ ?_)
  k_with "call builtin:divmod" => (k_here; k_dflt (refine' JB.divmod_J ?J4k1 ?J4k2 ?J4k3 ?J4k4 ?_; (case J4k1 => k_asm); (case J4k2 => k_asm); (case J4k3 => decide); (case J4k4 => exact PyProof.noPylong_of_log2 (by decide +kernel)); intro D' h' F' N' l1; (try k_lt l1)))
  k_with "execs cons" => (k_here; (with_reducible show wpAny _ _ _ _ _ (Shared.mk _ _ _ (_ + 1 + 1 + 1) _)); (with_reducible refine JB.gen_toks ?_); intro tk)
  k_with "execs nil" => (k_here; (with_reducible show wpAny _ _ _ _ _ (Shared.mk _ _ _ (_ + 1 + 1 + 1) _)); (with_reducible refine JB.gen_toks ?_); intro tk)
  k_with "call ref" => (k_here; (with_reducible show wpAny _ _ (call (Value.ref 120) _) _ _ _); k_dflt (refine' JB.C_gyF _ _ _ _ _ _ _ _ ?J7k1 ?J7k2 ?J7k3 ?J7k4 ?J7k5 ?J7kK ?J7kp ?J7kd ?J7ku ?_; (case J7k1 => first | k_asm | ktn_no "jb: the frames below"); (case J7k2 => first | k_asm | ktn_no "jb: the frame"); (case J7k3 => first | k_asm | ktn_no "jb: the written part"); (case J7k4 => first | k_asm | ktn_no "jb: the ledger"); (case J7k5 => first | k_asm | ktn_no "jb: the top's facts"); (case J7kK => first | exact rfl | assumption | ktn_no "jb: the caller is no def"); (case J7kd => first | ktr_room | ktn_no "jb: the frames' room"); (case J7ku => first | ktr_units | ktn_no "jb: the C units"); (case J7kp => first | (exact ⟨by first | decide | with_reducible assumption, by with_reducible assumption⟩) | trivial | ((try dsimp only); first | with_reducible assumption | omega) | ktn_no "jb: what the claim asks"); intro t9 h9 tk9 F9 N9; (try dsimp only); (try k_fold)); walk_say "CONTRACT gyF")
  k_with "call ref" => (k_here; (with_reducible show wpAny _ _ (call (Value.ref 57) _) _ _ _); k_dflt (refine' JB.C_from_jd _ _ _ ?J8k1 ?J8k2 ?J8k3 ?J8k4 ?J8k5 ?J8kK ?J8kp ?J8kd ?J8ku ?_; (case J8k1 => first | k_asm | ktn_no "jb: the frames below"); (case J8k2 => first | k_asm | ktn_no "jb: the frame"); (case J8k3 => first | k_asm | ktn_no "jb: the written part"); (case J8k4 => first | k_asm | ktn_no "jb: the ledger"); (case J8k5 => first | k_asm | ktn_no "jb: the top's facts"); (case J8kK => first | exact rfl | assumption | ktn_no "jb: the caller is no def"); (case J8kd => first | ktr_room | ktn_no "jb: the frames' room"); (case J8ku => first | ktr_units | ktn_no "jb: the C units"); (case J8kp => first | (fail) | trivial | ((try dsimp only); first | with_reducible assumption | omega) | ktn_no "jb: what the claim asks"); intro D9 t1 t2 t3 k9 h9 tk9 F9 N9; (try dsimp only); (try k_fold)); walk_say "CONTRACT from_jd")
  k_with "eval Name" => (k_here; (with_reducible show wpAny _ _ (eval (Expr.Name (Str.ofString "jd") _) _) _ _ _); k_dflt (refine' PyProof.Rows.ld ?J9k1 ?J9k2 ?_; (case J9k1 => k_asm); (case J9k2 => assumption)))
  k_with "loadName" => (k_here; (with_reducible show wpAny _ _ (loadName _ (Str.ofString "jd")) _ _ _); k_dflt (refine' PyProof.Rows.ldn ?J10k1 ?J10k2 ?_; (case J10k1 => k_asm); (case J10k2 => assumption)))
  dsimp only [JCl, RVal, RTup]
  k_fill
  intros
  rename_i hpre hroom hunits hret
  have hp1 := hpre
  refine wpAny_call ?_
  k_dflt (refine' code_def ?k1 ?k2 ?k3 ?k4 ?k5 ?kA ?kF ?kK ?k6 ?k7 ?k8 ?k9 ?kB ?_ ?c2 ?c3 ?c4 ?c5; (case kA => exact rfl); (case kF => exact rfl); (case kK => assumption); (case k1 => k_asm); (case k2 => k_asm); (case k3 => k_asm); (case k4 => k_asm); (case k5 => k_asm); (case k6 => k_is); (case k7 => k_is); (case k8 => ktr_room); (case k9 => exact binds_K (by k_in) rfl (by k_is) rfl rfl rfl); (case c5 => decide); (case kB => exact locs rfl); (case c2 => exact rfl); (case c3 => exact rfl); (case c4 => exact rfl); k_whole; intro g' L' h' FG' F' N' B' X' T'; (try dsimp only); (try k_lift B'); (try k_fold))
  repeat' ((fail_if_success (with_reducible show wpAny _ _ (execs (Stmt.If (Expr.Name _ _) _ _ _ :: _) _) _ _ _)); (first | (k_unfold; (try dsimp only)) | (k_end; wrow_close) | walk1 | (dsimp only; walk1) | (leave1; walk_say "STEP leave1"; try dsimp only) | fail "no step"))
  have gJ := True.intro
  (rename PyProof.Rows.Fr _ _ _ _ => jF)
  (rename PyProof.Rows.News _ _ _ _ => jN)
  refine execs_cut1 (GCutS jF jN (fun m2 => (∃ v t, m2 (Str.ofString "jd") = some (.int v t) ∧ v = (if ev = true then n - 1 else n)))) ?_ ?_
  · k_steps
    all_goals ((rename PyProof.Rows.Fr _ _ _ _ => jF9); (rename PyProof.Rows.News _ _ _ _ => jN9); first | refine ⟨_, _, _, rfl, jF9, jN9, ⟨_, _, gJ, ?_⟩⟩ | refine ⟨_, _, _, rfl, jF9, jN9, ⟨_, _, rfl, ?_⟩⟩)
    all_goals first | exact JB.join_ev (by with_reducible assumption) | exact (if_pos (by with_reducible assumption)).symm | exact (if_neg (by with_reducible assumption)).symm | exact (if_neg (JB.ne_true (by with_reducible assumption))).symm
  intro s2 hP
  obtain ⟨h2, tk2, m2, hs2, F2, N2, ⟨vJ, tJ, gJ, eJ⟩⟩ := hP
  subst hs2
  subst eJ
  clear jF jN
  k_steps
  skip
  all_goals ((rename PyProof.Rows.Fr _ _ _ _ => jF); (rename PyProof.Rows.News _ _ _ _ => jN); refine tup_ret hret jF (by first | exact jN | exact news_skip jN) ?_ ?_ ?_)
  all_goals (law_clear; (rfl))
set_option maxRecDepth 100000 in
set_option maxHeartbeats 8000000 in
theorem C_e4 (w : World) (y : Int) (t_y : Tok) (ev : Bool) : JClE w 160 [.int y t_y, .bool ev] 11 (NGnd y 1 15)  := by
  k_with_none
  w_top off
  k_with "eval Name" => (k_here; (with_reducible show wpAny _ _ (eval (Expr.Name _ _) (envOf _ _ _ _ _)) _ _ _); (with_reducible rename Fr _ _ _ _ => kF); k_dflt (refine' name_K kF ?J1k1 ?J1k2 ?J1k3 ?_; (case J1k1 => k_asm); (case J1k2 => k_asm); (case J1k3 => k_is); k_whole))
  k_with "storeName" => (k_here; (with_reducible show wpAny _ _ (storeName _ _ (Value.int _ _)) _ _ _); k_dflt (refine' JB.store_int ?J2F ?J2N ?_ ?J2a ?J2b; (case J2F => k_asm); (case J2N => k_asm); (case J2a => rfl); (case J2b => rfl); k_whole; intro t h' F' N'; (try k_sweep)))
  k_with "eval Call" => (k_here; (with_reducible show wpAny _ _ (eval (Expr.Call (Expr.Name _ _) _ [] _) _) _ _ _); refine PyProof.Rows.Call_ ?_)
  k_with "call builtin:divmod" => (k_here; k_dflt (refine' JB.divmod_J ?J4k1 ?J4k2 ?J4k3 ?J4k4 ?_; (case J4k1 => k_asm); (case J4k2 => k_asm); (case J4k3 => decide); (case J4k4 => exact PyProof.noPylong_of_log2 (by decide +kernel)); intro D' h' F' N' l1; (try k_lt l1)))
  k_with "execs cons" => (k_here; (with_reducible show wpAny _ _ _ _ _ (Shared.mk _ _ _ (_ + 1 + 1 + 1) _)); (with_reducible refine JB.gen_toks ?_); intro tk)
  k_with "execs nil" => (k_here; (with_reducible show wpAny _ _ _ _ _ (Shared.mk _ _ _ (_ + 1 + 1 + 1) _)); (with_reducible refine JB.gen_toks ?_); intro tk)
  k_with "call ref" => (k_here; (with_reducible show wpAny _ _ (call (Value.ref 120) _) _ _ _); k_dflt (refine' JB.C_gyR _ _ _ _ _ _ _ ?J7k1 ?J7k2 ?J7k3 ?J7k4 ?J7k5 ?J7kK ?J7kp ?J7kd ?J7ku ?_; (case J7k1 => first | k_asm | ktn_no "jb: the frames below"); (case J7k2 => first | k_asm | ktn_no "jb: the frame"); (case J7k3 => first | k_asm | ktn_no "jb: the written part"); (case J7k4 => first | k_asm | ktn_no "jb: the ledger"); (case J7k5 => first | k_asm | ktn_no "jb: the top's facts"); (case J7kK => first | exact rfl | assumption | ktn_no "jb: the caller is no def"); (case J7kd => first | ktr_room | ktn_no "jb: the frames' room"); (case J7ku => first | ktr_units | ktn_no "jb: the C units"); (case J7kp => first | (exact ⟨by first | decide | with_reducible assumption, by with_reducible assumption⟩) | trivial | ((try dsimp only); first | with_reducible assumption | omega) | ktn_no "jb: what the claim asks"); intro e9 t9 xs9 g9 h9 tk9 F9 U9 R9; (try dsimp only); (try k_fold)); walk_say "CONTRACT gyR")
  dsimp only [JCl, JClE, RVal, RTup]
  k_fill
  intros
  rename_i hpre hroom hunits hret
  have hp1 := hpre
  refine wpAny_call ?_
  k_dflt (refine' code_def ?k1 ?k2 ?k3 ?k4 ?k5 ?kA ?kF ?kK ?k6 ?k7 ?k8 ?k9 ?kB ?_ ?c2 ?c3 ?c4 ?c5; (case kA => exact rfl); (case kF => exact rfl); (case kK => assumption); (case k1 => k_asm); (case k2 => k_asm); (case k3 => k_asm); (case k4 => k_asm); (case k5 => k_asm); (case k6 => k_is); (case k7 => k_is); (case k8 => ktr_room); (case k9 => exact binds_K (by k_in) rfl (by k_is) rfl rfl rfl); (case c5 => decide); (case kB => exact locs rfl); (case c2 => exact rfl); (case c3 => exact rfl); (case c4 => exact rfl); k_whole; intro g' L' h' FG' F' N' B' X' T'; (try dsimp only); (try k_lift B'); (try k_fold))
  k_steps
  skip
  all_goals ((rename Heap.UpToSlots _ _ => jU); (rename RaisedK _ _ _ _ _ _ _ _ => jR); exact hret _ _ _ _ _ _ (by with_reducible assumption) jU (raised_sub jR (by intro p hp; repeat (first | exact hp | apply List.mem_cons_of_mem))))
set_option maxRecDepth 100000 in
set_option maxHeartbeats 8000000 in
theorem C_h5 (w : World) (n : Int) (y : Int) (t_y : Tok) (ev : Bool) : JCl w 168 [.int y t_y, .bool ev] 11 (Gnd y 3 6 n) (RTup (fy (if ev = true then n - 1 else n)) (fm (if ev = true then n - 1 else n)) (fd (if ev = true then n - 1 else n))) := by
  k_with_none
  w_top off
  k_with "eval Name" => (k_here; (with_reducible show wpAny _ _ (eval (Expr.Name _ _) (envOf _ _ _ _ _)) _ _ _); (with_reducible rename Fr _ _ _ _ => kF); k_dflt (refine' name_K kF ?J1k1 ?J1k2 ?J1k3 ?_; (case J1k1 => k_asm); (case J1k2 => k_asm); (case J1k3 => k_is); k_whole))
  k_with "storeName" => (k_here; (with_reducible show wpAny _ _ (storeName _ _ (Value.int _ _)) _ _ _); k_dflt (refine' JB.store_int ?J2F ?J2N ?_ ?J2a ?J2b; (case J2F => k_asm); (case J2N => k_asm); (case J2a => rfl); (case J2b => rfl); k_whole; intro t h' F' N'; (try k_sweep)))
  k_with "eval Call" => (k_here; (with_reducible show wpAny _ _ (eval (Expr.Call (Expr.Name _ _) _ [] _) _) _ _ _); refine PyProof.Rows.Call_ ?_)
  k_with "call builtin:divmod" => (k_here; k_dflt (refine' JB.divmod_J ?J4k1 ?J4k2 ?J4k3 ?J4k4 ?_; (case J4k1 => k_asm); (case J4k2 => k_asm); (case J4k3 => decide); (case J4k4 => exact PyProof.noPylong_of_log2 (by decide +kernel)); intro D' h' F' N' l1; (try k_lt l1)))
  k_with "execs cons" => (k_here; (with_reducible show wpAny _ _ _ _ _ (Shared.mk _ _ _ (_ + 1 + 1 + 1) _)); (with_reducible refine JB.gen_toks ?_); intro tk)
  k_with "execs nil" => (k_here; (with_reducible show wpAny _ _ _ _ _ (Shared.mk _ _ _ (_ + 1 + 1 + 1) _)); (with_reducible refine JB.gen_toks ?_); intro tk)
  k_with "call ref" => (k_here; (with_reducible show wpAny _ _ (call (Value.ref 120) _) _ _ _); k_dflt (refine' JB.C_gyF _ _ _ _ _ _ _ _ ?J7k1 ?J7k2 ?J7k3 ?J7k4 ?J7k5 ?J7kK ?J7kp ?J7kd ?J7ku ?_; (case J7k1 => first | k_asm | ktn_no "jb: the frames below"); (case J7k2 => first | k_asm | ktn_no "jb: the frame"); (case J7k3 => first | k_asm | ktn_no "jb: the written part"); (case J7k4 => first | k_asm | ktn_no "jb: the ledger"); (case J7k5 => first | k_asm | ktn_no "jb: the top's facts"); (case J7kK => first | exact rfl | assumption | ktn_no "jb: the caller is no def"); (case J7kd => first | ktr_room | ktn_no "jb: the frames' room"); (case J7ku => first | ktr_units | ktn_no "jb: the C units"); (case J7kp => first | (exact ⟨by first | decide | with_reducible assumption, by with_reducible assumption⟩) | trivial | ((try dsimp only); first | with_reducible assumption | omega) | ktn_no "jb: what the claim asks"); intro t9 h9 tk9 F9 N9; (try dsimp only); (try k_fold)); walk_say "CONTRACT gyF")
  k_with "call ref" => (k_here; (with_reducible show wpAny _ _ (call (Value.ref 57) _) _ _ _); k_dflt (refine' JB.C_from_jd _ _ _ ?J8k1 ?J8k2 ?J8k3 ?J8k4 ?J8k5 ?J8kK ?J8kp ?J8kd ?J8ku ?_; (case J8k1 => first | k_asm | ktn_no "jb: the frames below"); (case J8k2 => first | k_asm | ktn_no "jb: the frame"); (case J8k3 => first | k_asm | ktn_no "jb: the written part"); (case J8k4 => first | k_asm | ktn_no "jb: the ledger"); (case J8k5 => first | k_asm | ktn_no "jb: the top's facts"); (case J8kK => first | exact rfl | assumption | ktn_no "jb: the caller is no def"); (case J8kd => first | ktr_room | ktn_no "jb: the frames' room"); (case J8ku => first | ktr_units | ktn_no "jb: the C units"); (case J8kp => first | (fail) | trivial | ((try dsimp only); first | with_reducible assumption | omega) | ktn_no "jb: what the claim asks"); intro D9 t1 t2 t3 k9 h9 tk9 F9 N9; (try dsimp only); (try k_fold)); walk_say "CONTRACT from_jd")
  k_with "eval Name" => (k_here; (with_reducible show wpAny _ _ (eval (Expr.Name (Str.ofString "jd") _) _) _ _ _); k_dflt (refine' PyProof.Rows.ld ?J9k1 ?J9k2 ?_; (case J9k1 => k_asm); (case J9k2 => assumption)))
  k_with "loadName" => (k_here; (with_reducible show wpAny _ _ (loadName _ (Str.ofString "jd")) _ _ _); k_dflt (refine' PyProof.Rows.ldn ?J10k1 ?J10k2 ?_; (case J10k1 => k_asm); (case J10k2 => assumption)))
  dsimp only [JCl, RVal, RTup]
  k_fill
  intros
  rename_i hpre hroom hunits hret
  have hp1 := hpre
  refine wpAny_call ?_
  k_dflt (refine' code_def ?k1 ?k2 ?k3 ?k4 ?k5 ?kA ?kF ?kK ?k6 ?k7 ?k8 ?k9 ?kB ?_ ?c2 ?c3 ?c4 ?c5; (case kA => exact rfl); (case kF => exact rfl); (case kK => assumption); (case k1 => k_asm); (case k2 => k_asm); (case k3 => k_asm); (case k4 => k_asm); (case k5 => k_asm); (case k6 => k_is); (case k7 => k_is); (case k8 => ktr_room); (case k9 => exact binds_K (by k_in) rfl (by k_is) rfl rfl rfl); (case c5 => decide); (case kB => exact locs rfl); (case c2 => exact rfl); (case c3 => exact rfl); (case c4 => exact rfl); k_whole; intro g' L' h' FG' F' N' B' X' T'; (try dsimp only); (try k_lift B'); (try k_fold))
  repeat' ((fail_if_success (with_reducible show wpAny _ _ (execs (Stmt.If (Expr.Name _ _) _ _ _ :: _) _) _ _ _)); (first | (k_unfold; (try dsimp only)) | (k_end; wrow_close) | walk1 | (dsimp only; walk1) | (leave1; walk_say "STEP leave1"; try dsimp only) | fail "no step"))
  have gJ := True.intro
  (rename PyProof.Rows.Fr _ _ _ _ => jF)
  (rename PyProof.Rows.News _ _ _ _ => jN)
  refine execs_cut1 (GCutS jF jN (fun m2 => (∃ v t, m2 (Str.ofString "jd") = some (.int v t) ∧ v = (if ev = true then n - 1 else n)))) ?_ ?_
  · k_steps
    all_goals ((rename PyProof.Rows.Fr _ _ _ _ => jF9); (rename PyProof.Rows.News _ _ _ _ => jN9); first | refine ⟨_, _, _, rfl, jF9, jN9, ⟨_, _, gJ, ?_⟩⟩ | refine ⟨_, _, _, rfl, jF9, jN9, ⟨_, _, rfl, ?_⟩⟩)
    all_goals first | exact JB.join_ev (by with_reducible assumption) | exact (if_pos (by with_reducible assumption)).symm | exact (if_neg (by with_reducible assumption)).symm | exact (if_neg (JB.ne_true (by with_reducible assumption))).symm
  intro s2 hP
  obtain ⟨h2, tk2, m2, hs2, F2, N2, ⟨vJ, tJ, gJ, eJ⟩⟩ := hP
  subst hs2
  subst eJ
  clear jF jN
  k_steps
  skip
  all_goals ((rename PyProof.Rows.Fr _ _ _ _ => jF); (rename PyProof.Rows.News _ _ _ _ => jN); refine tup_ret hret jF (by first | exact jN | exact news_skip jN) ?_ ?_ ?_)
  all_goals (law_clear; (rfl))
set_option maxRecDepth 100000 in
set_option maxHeartbeats 8000000 in
theorem C_e5 (w : World) (y : Int) (t_y : Tok) (ev : Bool) : JClE w 168 [.int y t_y, .bool ev] 11 (NGnd y 3 6)  := by
  k_with_none
  w_top off
  k_with "eval Name" => (k_here; (with_reducible show wpAny _ _ (eval (Expr.Name _ _) (envOf _ _ _ _ _)) _ _ _); (with_reducible rename Fr _ _ _ _ => kF); k_dflt (refine' name_K kF ?J1k1 ?J1k2 ?J1k3 ?_; (case J1k1 => k_asm); (case J1k2 => k_asm); (case J1k3 => k_is); k_whole))
  k_with "storeName" => (k_here; (with_reducible show wpAny _ _ (storeName _ _ (Value.int _ _)) _ _ _); k_dflt (refine' JB.store_int ?J2F ?J2N ?_ ?J2a ?J2b; (case J2F => k_asm); (case J2N => k_asm); (case J2a => rfl); (case J2b => rfl); k_whole; intro t h' F' N'; (try k_sweep)))
  k_with "eval Call" => (k_here; (with_reducible show wpAny _ _ (eval (Expr.Call (Expr.Name _ _) _ [] _) _) _ _ _); refine PyProof.Rows.Call_ ?_)
  k_with "call builtin:divmod" => (k_here; k_dflt (refine' JB.divmod_J ?J4k1 ?J4k2 ?J4k3 ?J4k4 ?_; (case J4k1 => k_asm); (case J4k2 => k_asm); (case J4k3 => decide); (case J4k4 => exact PyProof.noPylong_of_log2 (by decide +kernel)); intro D' h' F' N' l1; (try k_lt l1)))
  k_with "execs cons" => (k_here; (with_reducible show wpAny _ _ _ _ _ (Shared.mk _ _ _ (_ + 1 + 1 + 1) _)); (with_reducible refine JB.gen_toks ?_); intro tk)
  k_with "execs nil" => (k_here; (with_reducible show wpAny _ _ _ _ _ (Shared.mk _ _ _ (_ + 1 + 1 + 1) _)); (with_reducible refine JB.gen_toks ?_); intro tk)
  k_with "call ref" => (k_here; (with_reducible show wpAny _ _ (call (Value.ref 120) _) _ _ _); k_dflt (refine' JB.C_gyR _ _ _ _ _ _ _ ?J7k1 ?J7k2 ?J7k3 ?J7k4 ?J7k5 ?J7kK ?J7kp ?J7kd ?J7ku ?_; (case J7k1 => first | k_asm | ktn_no "jb: the frames below"); (case J7k2 => first | k_asm | ktn_no "jb: the frame"); (case J7k3 => first | k_asm | ktn_no "jb: the written part"); (case J7k4 => first | k_asm | ktn_no "jb: the ledger"); (case J7k5 => first | k_asm | ktn_no "jb: the top's facts"); (case J7kK => first | exact rfl | assumption | ktn_no "jb: the caller is no def"); (case J7kd => first | ktr_room | ktn_no "jb: the frames' room"); (case J7ku => first | ktr_units | ktn_no "jb: the C units"); (case J7kp => first | (exact ⟨by first | decide | with_reducible assumption, by with_reducible assumption⟩) | trivial | ((try dsimp only); first | with_reducible assumption | omega) | ktn_no "jb: what the claim asks"); intro e9 t9 xs9 g9 h9 tk9 F9 U9 R9; (try dsimp only); (try k_fold)); walk_say "CONTRACT gyR")
  dsimp only [JCl, JClE, RVal, RTup]
  k_fill
  intros
  rename_i hpre hroom hunits hret
  have hp1 := hpre
  refine wpAny_call ?_
  k_dflt (refine' code_def ?k1 ?k2 ?k3 ?k4 ?k5 ?kA ?kF ?kK ?k6 ?k7 ?k8 ?k9 ?kB ?_ ?c2 ?c3 ?c4 ?c5; (case kA => exact rfl); (case kF => exact rfl); (case kK => assumption); (case k1 => k_asm); (case k2 => k_asm); (case k3 => k_asm); (case k4 => k_asm); (case k5 => k_asm); (case k6 => k_is); (case k7 => k_is); (case k8 => ktr_room); (case k9 => exact binds_K (by k_in) rfl (by k_is) rfl rfl rfl); (case c5 => decide); (case kB => exact locs rfl); (case c2 => exact rfl); (case c3 => exact rfl); (case c4 => exact rfl); k_whole; intro g' L' h' FG' F' N' B' X' T'; (try dsimp only); (try k_lift B'); (try k_fold))
  k_steps
  skip
  all_goals ((rename Heap.UpToSlots _ _ => jU); (rename RaisedK _ _ _ _ _ _ _ _ => jR); exact hret _ _ _ _ _ _ (by with_reducible assumption) jU (raised_sub jR (by intro p hp; repeat (first | exact hp | apply List.mem_cons_of_mem))))
set_option maxRecDepth 100000 in
set_option maxHeartbeats 8000000 in
theorem C_h6 (w : World) (n : Int) (y : Int) (t_y : Tok) (ev : Bool) : JCl w 176 [.int y t_y, .bool ev] 11 (Gnd y 7 15 n) (RTup (fy (if ev = true then n - 1 else n)) (fm (if ev = true then n - 1 else n)) (fd (if ev = true then n - 1 else n))) := by
  k_with_none
  w_top off
  k_with "eval Name" => (k_here; (with_reducible show wpAny _ _ (eval (Expr.Name _ _) (envOf _ _ _ _ _)) _ _ _); (with_reducible rename Fr _ _ _ _ => kF); k_dflt (refine' name_K kF ?J1k1 ?J1k2 ?J1k3 ?_; (case J1k1 => k_asm); (case J1k2 => k_asm); (case J1k3 => k_is); k_whole))
  k_with "storeName" => (k_here; (with_reducible show wpAny _ _ (storeName _ _ (Value.int _ _)) _ _ _); k_dflt (refine' JB.store_int ?J2F ?J2N ?_ ?J2a ?J2b; (case J2F => k_asm); (case J2N => k_asm); (case J2a => rfl); (case J2b => rfl); k_whole; intro t h' F' N'; (try k_sweep)))
  k_with "eval Call" => (k_here; (with_reducible show wpAny _ _ (eval (Expr.Call (Expr.Name _ _) _ [] _) _) _ _ _); refine PyProof.Rows.Call_ ?_)
  k_with "call builtin:divmod" => (k_here; k_dflt (refine' JB.divmod_J ?J4k1 ?J4k2 ?J4k3 ?J4k4 ?_; (case J4k1 => k_asm); (case J4k2 => k_asm); (case J4k3 => decide); (case J4k4 => exact PyProof.noPylong_of_log2 (by decide +kernel)); intro D' h' F' N' l1; (try k_lt l1)))
  k_with "execs cons" => (k_here; (with_reducible show wpAny _ _ _ _ _ (Shared.mk _ _ _ (_ + 1 + 1 + 1) _)); (with_reducible refine JB.gen_toks ?_); intro tk)
  k_with "execs nil" => (k_here; (with_reducible show wpAny _ _ _ _ _ (Shared.mk _ _ _ (_ + 1 + 1 + 1) _)); (with_reducible refine JB.gen_toks ?_); intro tk)
  k_with "call ref" => (k_here; (with_reducible show wpAny _ _ (call (Value.ref 120) _) _ _ _); k_dflt (refine' JB.C_gyF _ _ _ _ _ _ _ _ ?J7k1 ?J7k2 ?J7k3 ?J7k4 ?J7k5 ?J7kK ?J7kp ?J7kd ?J7ku ?_; (case J7k1 => first | k_asm | ktn_no "jb: the frames below"); (case J7k2 => first | k_asm | ktn_no "jb: the frame"); (case J7k3 => first | k_asm | ktn_no "jb: the written part"); (case J7k4 => first | k_asm | ktn_no "jb: the ledger"); (case J7k5 => first | k_asm | ktn_no "jb: the top's facts"); (case J7kK => first | exact rfl | assumption | ktn_no "jb: the caller is no def"); (case J7kd => first | ktr_room | ktn_no "jb: the frames' room"); (case J7ku => first | ktr_units | ktn_no "jb: the C units"); (case J7kp => first | (exact ⟨by first | decide | with_reducible assumption, by with_reducible assumption⟩) | trivial | ((try dsimp only); first | with_reducible assumption | omega) | ktn_no "jb: what the claim asks"); intro t9 h9 tk9 F9 N9; (try dsimp only); (try k_fold)); walk_say "CONTRACT gyF")
  k_with "call ref" => (k_here; (with_reducible show wpAny _ _ (call (Value.ref 57) _) _ _ _); k_dflt (refine' JB.C_from_jd _ _ _ ?J8k1 ?J8k2 ?J8k3 ?J8k4 ?J8k5 ?J8kK ?J8kp ?J8kd ?J8ku ?_; (case J8k1 => first | k_asm | ktn_no "jb: the frames below"); (case J8k2 => first | k_asm | ktn_no "jb: the frame"); (case J8k3 => first | k_asm | ktn_no "jb: the written part"); (case J8k4 => first | k_asm | ktn_no "jb: the ledger"); (case J8k5 => first | k_asm | ktn_no "jb: the top's facts"); (case J8kK => first | exact rfl | assumption | ktn_no "jb: the caller is no def"); (case J8kd => first | ktr_room | ktn_no "jb: the frames' room"); (case J8ku => first | ktr_units | ktn_no "jb: the C units"); (case J8kp => first | (fail) | trivial | ((try dsimp only); first | with_reducible assumption | omega) | ktn_no "jb: what the claim asks"); intro D9 t1 t2 t3 k9 h9 tk9 F9 N9; (try dsimp only); (try k_fold)); walk_say "CONTRACT from_jd")
  k_with "eval Name" => (k_here; (with_reducible show wpAny _ _ (eval (Expr.Name (Str.ofString "jd") _) _) _ _ _); k_dflt (refine' PyProof.Rows.ld ?J9k1 ?J9k2 ?_; (case J9k1 => k_asm); (case J9k2 => assumption)))
  k_with "loadName" => (k_here; (with_reducible show wpAny _ _ (loadName _ (Str.ofString "jd")) _ _ _); k_dflt (refine' PyProof.Rows.ldn ?J10k1 ?J10k2 ?_; (case J10k1 => k_asm); (case J10k2 => assumption)))
  dsimp only [JCl, RVal, RTup]
  k_fill
  intros
  rename_i hpre hroom hunits hret
  have hp1 := hpre
  refine wpAny_call ?_
  k_dflt (refine' code_def ?k1 ?k2 ?k3 ?k4 ?k5 ?kA ?kF ?kK ?k6 ?k7 ?k8 ?k9 ?kB ?_ ?c2 ?c3 ?c4 ?c5; (case kA => exact rfl); (case kF => exact rfl); (case kK => assumption); (case k1 => k_asm); (case k2 => k_asm); (case k3 => k_asm); (case k4 => k_asm); (case k5 => k_asm); (case k6 => k_is); (case k7 => k_is); (case k8 => ktr_room); (case k9 => exact binds_K (by k_in) rfl (by k_is) rfl rfl rfl); (case c5 => decide); (case kB => exact locs rfl); (case c2 => exact rfl); (case c3 => exact rfl); (case c4 => exact rfl); k_whole; intro g' L' h' FG' F' N' B' X' T'; (try dsimp only); (try k_lift B'); (try k_fold))
  repeat' ((fail_if_success (with_reducible show wpAny _ _ (execs (Stmt.If (Expr.Name _ _) _ _ _ :: _) _) _ _ _)); (first | (k_unfold; (try dsimp only)) | (k_end; wrow_close) | walk1 | (dsimp only; walk1) | (leave1; walk_say "STEP leave1"; try dsimp only) | fail "no step"))
  have gJ := True.intro
  (rename PyProof.Rows.Fr _ _ _ _ => jF)
  (rename PyProof.Rows.News _ _ _ _ => jN)
  refine execs_cut1 (GCutS jF jN (fun m2 => (∃ v t, m2 (Str.ofString "jd") = some (.int v t) ∧ v = (if ev = true then n - 1 else n)))) ?_ ?_
  · k_steps
    all_goals ((rename PyProof.Rows.Fr _ _ _ _ => jF9); (rename PyProof.Rows.News _ _ _ _ => jN9); first | refine ⟨_, _, _, rfl, jF9, jN9, ⟨_, _, gJ, ?_⟩⟩ | refine ⟨_, _, _, rfl, jF9, jN9, ⟨_, _, rfl, ?_⟩⟩)
    all_goals first | exact JB.join_ev (by with_reducible assumption) | exact (if_pos (by with_reducible assumption)).symm | exact (if_neg (by with_reducible assumption)).symm | exact (if_neg (JB.ne_true (by with_reducible assumption))).symm
  intro s2 hP
  obtain ⟨h2, tk2, m2, hs2, F2, N2, ⟨vJ, tJ, gJ, eJ⟩⟩ := hP
  subst hs2
  subst eJ
  clear jF jN
  k_steps
  skip
  all_goals ((rename PyProof.Rows.Fr _ _ _ _ => jF); (rename PyProof.Rows.News _ _ _ _ => jN); refine tup_ret hret jF (by first | exact jN | exact news_skip jN) ?_ ?_ ?_)
  all_goals (law_clear; (rfl))
set_option maxRecDepth 100000 in
set_option maxHeartbeats 8000000 in
theorem C_e6 (w : World) (y : Int) (t_y : Tok) (ev : Bool) : JClE w 176 [.int y t_y, .bool ev] 11 (NGnd y 7 15)  := by
  k_with_none
  w_top off
  k_with "eval Name" => (k_here; (with_reducible show wpAny _ _ (eval (Expr.Name _ _) (envOf _ _ _ _ _)) _ _ _); (with_reducible rename Fr _ _ _ _ => kF); k_dflt (refine' name_K kF ?J1k1 ?J1k2 ?J1k3 ?_; (case J1k1 => k_asm); (case J1k2 => k_asm); (case J1k3 => k_is); k_whole))
  k_with "storeName" => (k_here; (with_reducible show wpAny _ _ (storeName _ _ (Value.int _ _)) _ _ _); k_dflt (refine' JB.store_int ?J2F ?J2N ?_ ?J2a ?J2b; (case J2F => k_asm); (case J2N => k_asm); (case J2a => rfl); (case J2b => rfl); k_whole; intro t h' F' N'; (try k_sweep)))
  k_with "eval Call" => (k_here; (with_reducible show wpAny _ _ (eval (Expr.Call (Expr.Name _ _) _ [] _) _) _ _ _); refine PyProof.Rows.Call_ ?_)
  k_with "call builtin:divmod" => (k_here; k_dflt (refine' JB.divmod_J ?J4k1 ?J4k2 ?J4k3 ?J4k4 ?_; (case J4k1 => k_asm); (case J4k2 => k_asm); (case J4k3 => decide); (case J4k4 => exact PyProof.noPylong_of_log2 (by decide +kernel)); intro D' h' F' N' l1; (try k_lt l1)))
  k_with "execs cons" => (k_here; (with_reducible show wpAny _ _ _ _ _ (Shared.mk _ _ _ (_ + 1 + 1 + 1) _)); (with_reducible refine JB.gen_toks ?_); intro tk)
  k_with "execs nil" => (k_here; (with_reducible show wpAny _ _ _ _ _ (Shared.mk _ _ _ (_ + 1 + 1 + 1) _)); (with_reducible refine JB.gen_toks ?_); intro tk)
  k_with "call ref" => (k_here; (with_reducible show wpAny _ _ (call (Value.ref 120) _) _ _ _); k_dflt (refine' JB.C_gyR _ _ _ _ _ _ _ ?J7k1 ?J7k2 ?J7k3 ?J7k4 ?J7k5 ?J7kK ?J7kp ?J7kd ?J7ku ?_; (case J7k1 => first | k_asm | ktn_no "jb: the frames below"); (case J7k2 => first | k_asm | ktn_no "jb: the frame"); (case J7k3 => first | k_asm | ktn_no "jb: the written part"); (case J7k4 => first | k_asm | ktn_no "jb: the ledger"); (case J7k5 => first | k_asm | ktn_no "jb: the top's facts"); (case J7kK => first | exact rfl | assumption | ktn_no "jb: the caller is no def"); (case J7kd => first | ktr_room | ktn_no "jb: the frames' room"); (case J7ku => first | ktr_units | ktn_no "jb: the C units"); (case J7kp => first | (exact ⟨by first | decide | with_reducible assumption, by with_reducible assumption⟩) | trivial | ((try dsimp only); first | with_reducible assumption | omega) | ktn_no "jb: what the claim asks"); intro e9 t9 xs9 g9 h9 tk9 F9 U9 R9; (try dsimp only); (try k_fold)); walk_say "CONTRACT gyR")
  dsimp only [JCl, JClE, RVal, RTup]
  k_fill
  intros
  rename_i hpre hroom hunits hret
  have hp1 := hpre
  refine wpAny_call ?_
  k_dflt (refine' code_def ?k1 ?k2 ?k3 ?k4 ?k5 ?kA ?kF ?kK ?k6 ?k7 ?k8 ?k9 ?kB ?_ ?c2 ?c3 ?c4 ?c5; (case kA => exact rfl); (case kF => exact rfl); (case kK => assumption); (case k1 => k_asm); (case k2 => k_asm); (case k3 => k_asm); (case k4 => k_asm); (case k5 => k_asm); (case k6 => k_is); (case k7 => k_is); (case k8 => ktr_room); (case k9 => exact binds_K (by k_in) rfl (by k_is) rfl rfl rfl); (case c5 => decide); (case kB => exact locs rfl); (case c2 => exact rfl); (case c3 => exact rfl); (case c4 => exact rfl); k_whole; intro g' L' h' FG' F' N' B' X' T'; (try dsimp only); (try k_lift B'); (try k_fold))
  k_steps
  skip
  all_goals ((rename Heap.UpToSlots _ _ => jU); (rename RaisedK _ _ _ _ _ _ _ _ => jR); exact hret _ _ _ _ _ _ (by with_reducible assumption) jU (raised_sub jR (by intro p hp; repeat (first | exact hp | apply List.mem_cons_of_mem))))
set_option maxRecDepth 100000 in
set_option maxHeartbeats 8000000 in
theorem C_h7 (w : World) (n : Int) (y : Int) (t_y : Tok) (ev : Bool) : JCl w 184 [.int y t_y, .bool ev] 11 (Gnd y 7 22 n) (RTup (fy (if ev = true then n - 1 else n)) (fm (if ev = true then n - 1 else n)) (fd (if ev = true then n - 1 else n))) := by
  k_with_none
  w_top off
  k_with "eval Name" => (k_here; (with_reducible show wpAny _ _ (eval (Expr.Name _ _) (envOf _ _ _ _ _)) _ _ _); (with_reducible rename Fr _ _ _ _ => kF); k_dflt (refine' name_K kF ?J1k1 ?J1k2 ?J1k3 ?_; (case J1k1 => k_asm); (case J1k2 => k_asm); (case J1k3 => k_is); k_whole))
  k_with "storeName" => (k_here; (with_reducible show wpAny _ _ (storeName _ _ (Value.int _ _)) _ _ _); k_dflt (refine' JB.store_int ?J2F ?J2N ?_ ?J2a ?J2b; (case J2F => k_asm); (case J2N => k_asm); (case J2a => rfl); (case J2b => rfl); k_whole; intro t h' F' N'; (try k_sweep)))
  k_with "eval Call" => (k_here; (with_reducible show wpAny _ _ (eval (Expr.Call (Expr.Name _ _) _ [] _) _) _ _ _); refine PyProof.Rows.Call_ ?_)
  k_with "call builtin:divmod" => (k_here; k_dflt (refine' JB.divmod_J ?J4k1 ?J4k2 ?J4k3 ?J4k4 ?_; (case J4k1 => k_asm); (case J4k2 => k_asm); (case J4k3 => decide); (case J4k4 => exact PyProof.noPylong_of_log2 (by decide +kernel)); intro D' h' F' N' l1; (try k_lt l1)))
  k_with "execs cons" => (k_here; (with_reducible show wpAny _ _ _ _ _ (Shared.mk _ _ _ (_ + 1 + 1 + 1) _)); (with_reducible refine JB.gen_toks ?_); intro tk)
  k_with "execs nil" => (k_here; (with_reducible show wpAny _ _ _ _ _ (Shared.mk _ _ _ (_ + 1 + 1 + 1) _)); (with_reducible refine JB.gen_toks ?_); intro tk)
  k_with "call ref" => (k_here; (with_reducible show wpAny _ _ (call (Value.ref 120) _) _ _ _); k_dflt (refine' JB.C_gyF _ _ _ _ _ _ _ _ ?J7k1 ?J7k2 ?J7k3 ?J7k4 ?J7k5 ?J7kK ?J7kp ?J7kd ?J7ku ?_; (case J7k1 => first | k_asm | ktn_no "jb: the frames below"); (case J7k2 => first | k_asm | ktn_no "jb: the frame"); (case J7k3 => first | k_asm | ktn_no "jb: the written part"); (case J7k4 => first | k_asm | ktn_no "jb: the ledger"); (case J7k5 => first | k_asm | ktn_no "jb: the top's facts"); (case J7kK => first | exact rfl | assumption | ktn_no "jb: the caller is no def"); (case J7kd => first | ktr_room | ktn_no "jb: the frames' room"); (case J7ku => first | ktr_units | ktn_no "jb: the C units"); (case J7kp => first | (exact ⟨by first | decide | with_reducible assumption, by with_reducible assumption⟩) | trivial | ((try dsimp only); first | with_reducible assumption | omega) | ktn_no "jb: what the claim asks"); intro t9 h9 tk9 F9 N9; (try dsimp only); (try k_fold)); walk_say "CONTRACT gyF")
  k_with "call ref" => (k_here; (with_reducible show wpAny _ _ (call (Value.ref 57) _) _ _ _); k_dflt (refine' JB.C_from_jd _ _ _ ?J8k1 ?J8k2 ?J8k3 ?J8k4 ?J8k5 ?J8kK ?J8kp ?J8kd ?J8ku ?_; (case J8k1 => first | k_asm | ktn_no "jb: the frames below"); (case J8k2 => first | k_asm | ktn_no "jb: the frame"); (case J8k3 => first | k_asm | ktn_no "jb: the written part"); (case J8k4 => first | k_asm | ktn_no "jb: the ledger"); (case J8k5 => first | k_asm | ktn_no "jb: the top's facts"); (case J8kK => first | exact rfl | assumption | ktn_no "jb: the caller is no def"); (case J8kd => first | ktr_room | ktn_no "jb: the frames' room"); (case J8ku => first | ktr_units | ktn_no "jb: the C units"); (case J8kp => first | (fail) | trivial | ((try dsimp only); first | with_reducible assumption | omega) | ktn_no "jb: what the claim asks"); intro D9 t1 t2 t3 k9 h9 tk9 F9 N9; (try dsimp only); (try k_fold)); walk_say "CONTRACT from_jd")
  k_with "eval Name" => (k_here; (with_reducible show wpAny _ _ (eval (Expr.Name (Str.ofString "jd") _) _) _ _ _); k_dflt (refine' PyProof.Rows.ld ?J9k1 ?J9k2 ?_; (case J9k1 => k_asm); (case J9k2 => assumption)))
  k_with "loadName" => (k_here; (with_reducible show wpAny _ _ (loadName _ (Str.ofString "jd")) _ _ _); k_dflt (refine' PyProof.Rows.ldn ?J10k1 ?J10k2 ?_; (case J10k1 => k_asm); (case J10k2 => assumption)))
  dsimp only [JCl, RVal, RTup]
  k_fill
  intros
  rename_i hpre hroom hunits hret
  have hp1 := hpre
  refine wpAny_call ?_
  k_dflt (refine' code_def ?k1 ?k2 ?k3 ?k4 ?k5 ?kA ?kF ?kK ?k6 ?k7 ?k8 ?k9 ?kB ?_ ?c2 ?c3 ?c4 ?c5; (case kA => exact rfl); (case kF => exact rfl); (case kK => assumption); (case k1 => k_asm); (case k2 => k_asm); (case k3 => k_asm); (case k4 => k_asm); (case k5 => k_asm); (case k6 => k_is); (case k7 => k_is); (case k8 => ktr_room); (case k9 => exact binds_K (by k_in) rfl (by k_is) rfl rfl rfl); (case c5 => decide); (case kB => exact locs rfl); (case c2 => exact rfl); (case c3 => exact rfl); (case c4 => exact rfl); k_whole; intro g' L' h' FG' F' N' B' X' T'; (try dsimp only); (try k_lift B'); (try k_fold))
  repeat' ((fail_if_success (with_reducible show wpAny _ _ (execs (Stmt.If (Expr.Name _ _) _ _ _ :: _) _) _ _ _)); (first | (k_unfold; (try dsimp only)) | (k_end; wrow_close) | walk1 | (dsimp only; walk1) | (leave1; walk_say "STEP leave1"; try dsimp only) | fail "no step"))
  have gJ := True.intro
  (rename PyProof.Rows.Fr _ _ _ _ => jF)
  (rename PyProof.Rows.News _ _ _ _ => jN)
  refine execs_cut1 (GCutS jF jN (fun m2 => (∃ v t, m2 (Str.ofString "jd") = some (.int v t) ∧ v = (if ev = true then n - 1 else n)))) ?_ ?_
  · k_steps
    all_goals ((rename PyProof.Rows.Fr _ _ _ _ => jF9); (rename PyProof.Rows.News _ _ _ _ => jN9); first | refine ⟨_, _, _, rfl, jF9, jN9, ⟨_, _, gJ, ?_⟩⟩ | refine ⟨_, _, _, rfl, jF9, jN9, ⟨_, _, rfl, ?_⟩⟩)
    all_goals first | exact JB.join_ev (by with_reducible assumption) | exact (if_pos (by with_reducible assumption)).symm | exact (if_neg (by with_reducible assumption)).symm | exact (if_neg (JB.ne_true (by with_reducible assumption))).symm
  intro s2 hP
  obtain ⟨h2, tk2, m2, hs2, F2, N2, ⟨vJ, tJ, gJ, eJ⟩⟩ := hP
  subst hs2
  subst eJ
  clear jF jN
  k_steps
  skip
  all_goals ((rename PyProof.Rows.Fr _ _ _ _ => jF); (rename PyProof.Rows.News _ _ _ _ => jN); refine tup_ret hret jF (by first | exact jN | exact news_skip jN) ?_ ?_ ?_)
  all_goals (law_clear; (rfl))
set_option maxRecDepth 100000 in
set_option maxHeartbeats 8000000 in
theorem C_e7 (w : World) (y : Int) (t_y : Tok) (ev : Bool) : JClE w 184 [.int y t_y, .bool ev] 11 (NGnd y 7 22)  := by
  k_with_none
  w_top off
  k_with "eval Name" => (k_here; (with_reducible show wpAny _ _ (eval (Expr.Name _ _) (envOf _ _ _ _ _)) _ _ _); (with_reducible rename Fr _ _ _ _ => kF); k_dflt (refine' name_K kF ?J1k1 ?J1k2 ?J1k3 ?_; (case J1k1 => k_asm); (case J1k2 => k_asm); (case J1k3 => k_is); k_whole))
  k_with "storeName" => (k_here; (with_reducible show wpAny _ _ (storeName _ _ (Value.int _ _)) _ _ _); k_dflt (refine' JB.store_int ?J2F ?J2N ?_ ?J2a ?J2b; (case J2F => k_asm); (case J2N => k_asm); (case J2a => rfl); (case J2b => rfl); k_whole; intro t h' F' N'; (try k_sweep)))
  k_with "eval Call" => (k_here; (with_reducible show wpAny _ _ (eval (Expr.Call (Expr.Name _ _) _ [] _) _) _ _ _); refine PyProof.Rows.Call_ ?_)
  k_with "call builtin:divmod" => (k_here; k_dflt (refine' JB.divmod_J ?J4k1 ?J4k2 ?J4k3 ?J4k4 ?_; (case J4k1 => k_asm); (case J4k2 => k_asm); (case J4k3 => decide); (case J4k4 => exact PyProof.noPylong_of_log2 (by decide +kernel)); intro D' h' F' N' l1; (try k_lt l1)))
  k_with "execs cons" => (k_here; (with_reducible show wpAny _ _ _ _ _ (Shared.mk _ _ _ (_ + 1 + 1 + 1) _)); (with_reducible refine JB.gen_toks ?_); intro tk)
  k_with "execs nil" => (k_here; (with_reducible show wpAny _ _ _ _ _ (Shared.mk _ _ _ (_ + 1 + 1 + 1) _)); (with_reducible refine JB.gen_toks ?_); intro tk)
  k_with "call ref" => (k_here; (with_reducible show wpAny _ _ (call (Value.ref 120) _) _ _ _); k_dflt (refine' JB.C_gyR _ _ _ _ _ _ _ ?J7k1 ?J7k2 ?J7k3 ?J7k4 ?J7k5 ?J7kK ?J7kp ?J7kd ?J7ku ?_; (case J7k1 => first | k_asm | ktn_no "jb: the frames below"); (case J7k2 => first | k_asm | ktn_no "jb: the frame"); (case J7k3 => first | k_asm | ktn_no "jb: the written part"); (case J7k4 => first | k_asm | ktn_no "jb: the ledger"); (case J7k5 => first | k_asm | ktn_no "jb: the top's facts"); (case J7kK => first | exact rfl | assumption | ktn_no "jb: the caller is no def"); (case J7kd => first | ktr_room | ktn_no "jb: the frames' room"); (case J7ku => first | ktr_units | ktn_no "jb: the C units"); (case J7kp => first | (exact ⟨by first | decide | with_reducible assumption, by with_reducible assumption⟩) | trivial | ((try dsimp only); first | with_reducible assumption | omega) | ktn_no "jb: what the claim asks"); intro e9 t9 xs9 g9 h9 tk9 F9 U9 R9; (try dsimp only); (try k_fold)); walk_say "CONTRACT gyR")
  dsimp only [JCl, JClE, RVal, RTup]
  k_fill
  intros
  rename_i hpre hroom hunits hret
  have hp1 := hpre
  refine wpAny_call ?_
  k_dflt (refine' code_def ?k1 ?k2 ?k3 ?k4 ?k5 ?kA ?kF ?kK ?k6 ?k7 ?k8 ?k9 ?kB ?_ ?c2 ?c3 ?c4 ?c5; (case kA => exact rfl); (case kF => exact rfl); (case kK => assumption); (case k1 => k_asm); (case k2 => k_asm); (case k3 => k_asm); (case k4 => k_asm); (case k5 => k_asm); (case k6 => k_is); (case k7 => k_is); (case k8 => ktr_room); (case k9 => exact binds_K (by k_in) rfl (by k_is) rfl rfl rfl); (case c5 => decide); (case kB => exact locs rfl); (case c2 => exact rfl); (case c3 => exact rfl); (case c4 => exact rfl); k_whole; intro g' L' h' FG' F' N' B' X' T'; (try dsimp only); (try k_lift B'); (try k_fold))
  k_steps
  skip
  all_goals ((rename Heap.UpToSlots _ _ => jU); (rename RaisedK _ _ _ _ _ _ _ _ => jR); exact hret _ _ _ _ _ _ (by with_reducible assumption) jU (raised_sub jR (by intro p hp; repeat (first | exact hp | apply List.mem_cons_of_mem))))
set_option maxRecDepth 100000 in
set_option maxHeartbeats 8000000 in
theorem C_h8 (w : World) (n : Int) (y : Int) (t_y : Tok) (ev : Bool) : JCl w 192 [.int y t_y, .bool ev] 11 (Gnd y 2 18 n) (RTup (fy (if ev = true then n - 1 else n)) (fm (if ev = true then n - 1 else n)) (fd (if ev = true then n - 1 else n))) := by
  k_with_none
  w_top off
  k_with "eval Name" => (k_here; (with_reducible show wpAny _ _ (eval (Expr.Name _ _) (envOf _ _ _ _ _)) _ _ _); (with_reducible rename Fr _ _ _ _ => kF); k_dflt (refine' name_K kF ?J1k1 ?J1k2 ?J1k3 ?_; (case J1k1 => k_asm); (case J1k2 => k_asm); (case J1k3 => k_is); k_whole))
  k_with "storeName" => (k_here; (with_reducible show wpAny _ _ (storeName _ _ (Value.int _ _)) _ _ _); k_dflt (refine' JB.store_int ?J2F ?J2N ?_ ?J2a ?J2b; (case J2F => k_asm); (case J2N => k_asm); (case J2a => rfl); (case J2b => rfl); k_whole; intro t h' F' N'; (try k_sweep)))
  k_with "eval Call" => (k_here; (with_reducible show wpAny _ _ (eval (Expr.Call (Expr.Name _ _) _ [] _) _) _ _ _); refine PyProof.Rows.Call_ ?_)
  k_with "call builtin:divmod" => (k_here; k_dflt (refine' JB.divmod_J ?J4k1 ?J4k2 ?J4k3 ?J4k4 ?_; (case J4k1 => k_asm); (case J4k2 => k_asm); (case J4k3 => decide); (case J4k4 => exact PyProof.noPylong_of_log2 (by decide +kernel)); intro D' h' F' N' l1; (try k_lt l1)))
  k_with "execs cons" => (k_here; (with_reducible show wpAny _ _ _ _ _ (Shared.mk _ _ _ (_ + 1 + 1 + 1) _)); (with_reducible refine JB.gen_toks ?_); intro tk)
  k_with "execs nil" => (k_here; (with_reducible show wpAny _ _ _ _ _ (Shared.mk _ _ _ (_ + 1 + 1 + 1) _)); (with_reducible refine JB.gen_toks ?_); intro tk)
  k_with "call ref" => (k_here; (with_reducible show wpAny _ _ (call (Value.ref 120) _) _ _ _); k_dflt (refine' JB.C_gyF _ _ _ _ _ _ _ _ ?J7k1 ?J7k2 ?J7k3 ?J7k4 ?J7k5 ?J7kK ?J7kp ?J7kd ?J7ku ?_; (case J7k1 => first | k_asm | ktn_no "jb: the frames below"); (case J7k2 => first | k_asm | ktn_no "jb: the frame"); (case J7k3 => first | k_asm | ktn_no "jb: the written part"); (case J7k4 => first | k_asm | ktn_no "jb: the ledger"); (case J7k5 => first | k_asm | ktn_no "jb: the top's facts"); (case J7kK => first | exact rfl | assumption | ktn_no "jb: the caller is no def"); (case J7kd => first | ktr_room | ktn_no "jb: the frames' room"); (case J7ku => first | ktr_units | ktn_no "jb: the C units"); (case J7kp => first | (exact ⟨by first | decide | with_reducible assumption, by with_reducible assumption⟩) | trivial | ((try dsimp only); first | with_reducible assumption | omega) | ktn_no "jb: what the claim asks"); intro t9 h9 tk9 F9 N9; (try dsimp only); (try k_fold)); walk_say "CONTRACT gyF")
  k_with "call ref" => (k_here; (with_reducible show wpAny _ _ (call (Value.ref 57) _) _ _ _); k_dflt (refine' JB.C_from_jd _ _ _ ?J8k1 ?J8k2 ?J8k3 ?J8k4 ?J8k5 ?J8kK ?J8kp ?J8kd ?J8ku ?_; (case J8k1 => first | k_asm | ktn_no "jb: the frames below"); (case J8k2 => first | k_asm | ktn_no "jb: the frame"); (case J8k3 => first | k_asm | ktn_no "jb: the written part"); (case J8k4 => first | k_asm | ktn_no "jb: the ledger"); (case J8k5 => first | k_asm | ktn_no "jb: the top's facts"); (case J8kK => first | exact rfl | assumption | ktn_no "jb: the caller is no def"); (case J8kd => first | ktr_room | ktn_no "jb: the frames' room"); (case J8ku => first | ktr_units | ktn_no "jb: the C units"); (case J8kp => first | (fail) | trivial | ((try dsimp only); first | with_reducible assumption | omega) | ktn_no "jb: what the claim asks"); intro D9 t1 t2 t3 k9 h9 tk9 F9 N9; (try dsimp only); (try k_fold)); walk_say "CONTRACT from_jd")
  k_with "eval Name" => (k_here; (with_reducible show wpAny _ _ (eval (Expr.Name (Str.ofString "jd") _) _) _ _ _); k_dflt (refine' PyProof.Rows.ld ?J9k1 ?J9k2 ?_; (case J9k1 => k_asm); (case J9k2 => assumption)))
  k_with "loadName" => (k_here; (with_reducible show wpAny _ _ (loadName _ (Str.ofString "jd")) _ _ _); k_dflt (refine' PyProof.Rows.ldn ?J10k1 ?J10k2 ?_; (case J10k1 => k_asm); (case J10k2 => assumption)))
  dsimp only [JCl, RVal, RTup]
  k_fill
  intros
  rename_i hpre hroom hunits hret
  have hp1 := hpre
  refine wpAny_call ?_
  k_dflt (refine' code_def ?k1 ?k2 ?k3 ?k4 ?k5 ?kA ?kF ?kK ?k6 ?k7 ?k8 ?k9 ?kB ?_ ?c2 ?c3 ?c4 ?c5; (case kA => exact rfl); (case kF => exact rfl); (case kK => assumption); (case k1 => k_asm); (case k2 => k_asm); (case k3 => k_asm); (case k4 => k_asm); (case k5 => k_asm); (case k6 => k_is); (case k7 => k_is); (case k8 => ktr_room); (case k9 => exact binds_K (by k_in) rfl (by k_is) rfl rfl rfl); (case c5 => decide); (case kB => exact locs rfl); (case c2 => exact rfl); (case c3 => exact rfl); (case c4 => exact rfl); k_whole; intro g' L' h' FG' F' N' B' X' T'; (try dsimp only); (try k_lift B'); (try k_fold))
  repeat' ((fail_if_success (with_reducible show wpAny _ _ (execs (Stmt.If (Expr.Name _ _) _ _ _ :: _) _) _ _ _)); (first | (k_unfold; (try dsimp only)) | (k_end; wrow_close) | walk1 | (dsimp only; walk1) | (leave1; walk_say "STEP leave1"; try dsimp only) | fail "no step"))
  have gJ := True.intro
  (rename PyProof.Rows.Fr _ _ _ _ => jF)
  (rename PyProof.Rows.News _ _ _ _ => jN)
  refine execs_cut1 (GCutS jF jN (fun m2 => (∃ v t, m2 (Str.ofString "jd") = some (.int v t) ∧ v = (if ev = true then n - 1 else n)))) ?_ ?_
  · k_steps
    all_goals ((rename PyProof.Rows.Fr _ _ _ _ => jF9); (rename PyProof.Rows.News _ _ _ _ => jN9); first | refine ⟨_, _, _, rfl, jF9, jN9, ⟨_, _, gJ, ?_⟩⟩ | refine ⟨_, _, _, rfl, jF9, jN9, ⟨_, _, rfl, ?_⟩⟩)
    all_goals first | exact JB.join_ev (by with_reducible assumption) | exact (if_pos (by with_reducible assumption)).symm | exact (if_neg (by with_reducible assumption)).symm | exact (if_neg (JB.ne_true (by with_reducible assumption))).symm
  intro s2 hP
  obtain ⟨h2, tk2, m2, hs2, F2, N2, ⟨vJ, tJ, gJ, eJ⟩⟩ := hP
  subst hs2
  subst eJ
  clear jF jN
  k_steps
  skip
  all_goals ((rename PyProof.Rows.Fr _ _ _ _ => jF); (rename PyProof.Rows.News _ _ _ _ => jN); refine tup_ret hret jF (by first | exact jN | exact news_skip jN) ?_ ?_ ?_)
  all_goals (law_clear; (rfl))
set_option maxRecDepth 100000 in
set_option maxHeartbeats 8000000 in
theorem C_e8 (w : World) (y : Int) (t_y : Tok) (ev : Bool) : JClE w 192 [.int y t_y, .bool ev] 11 (NGnd y 2 18)  := by
  k_with_none
  w_top off
  k_with "eval Name" => (k_here; (with_reducible show wpAny _ _ (eval (Expr.Name _ _) (envOf _ _ _ _ _)) _ _ _); (with_reducible rename Fr _ _ _ _ => kF); k_dflt (refine' name_K kF ?J1k1 ?J1k2 ?J1k3 ?_; (case J1k1 => k_asm); (case J1k2 => k_asm); (case J1k3 => k_is); k_whole))
  k_with "storeName" => (k_here; (with_reducible show wpAny _ _ (storeName _ _ (Value.int _ _)) _ _ _); k_dflt (refine' JB.store_int ?J2F ?J2N ?_ ?J2a ?J2b; (case J2F => k_asm); (case J2N => k_asm); (case J2a => rfl); (case J2b => rfl); k_whole; intro t h' F' N'; (try k_sweep)))
  k_with "eval Call" => (k_here; (with_reducible show wpAny _ _ (eval (Expr.Call (Expr.Name _ _) _ [] _) _) _ _ _); refine PyProof.Rows.Call_ ?_)
  k_with "call builtin:divmod" => (k_here; k_dflt (refine' JB.divmod_J ?J4k1 ?J4k2 ?J4k3 ?J4k4 ?_; (case J4k1 => k_asm); (case J4k2 => k_asm); (case J4k3 => decide); (case J4k4 => exact PyProof.noPylong_of_log2 (by decide +kernel)); intro D' h' F' N' l1; (try k_lt l1)))
  k_with "execs cons" => (k_here; (with_reducible show wpAny _ _ _ _ _ (Shared.mk _ _ _ (_ + 1 + 1 + 1) _)); (with_reducible refine JB.gen_toks ?_); intro tk)
  k_with "execs nil" => (k_here; (with_reducible show wpAny _ _ _ _ _ (Shared.mk _ _ _ (_ + 1 + 1 + 1) _)); (with_reducible refine JB.gen_toks ?_); intro tk)
  k_with "call ref" => (k_here; (with_reducible show wpAny _ _ (call (Value.ref 120) _) _ _ _); k_dflt (refine' JB.C_gyR _ _ _ _ _ _ _ ?J7k1 ?J7k2 ?J7k3 ?J7k4 ?J7k5 ?J7kK ?J7kp ?J7kd ?J7ku ?_; (case J7k1 => first | k_asm | ktn_no "jb: the frames below"); (case J7k2 => first | k_asm | ktn_no "jb: the frame"); (case J7k3 => first | k_asm | ktn_no "jb: the written part"); (case J7k4 => first | k_asm | ktn_no "jb: the ledger"); (case J7k5 => first | k_asm | ktn_no "jb: the top's facts"); (case J7kK => first | exact rfl | assumption | ktn_no "jb: the caller is no def"); (case J7kd => first | ktr_room | ktn_no "jb: the frames' room"); (case J7ku => first | ktr_units | ktn_no "jb: the C units"); (case J7kp => first | (exact ⟨by first | decide | with_reducible assumption, by with_reducible assumption⟩) | trivial | ((try dsimp only); first | with_reducible assumption | omega) | ktn_no "jb: what the claim asks"); intro e9 t9 xs9 g9 h9 tk9 F9 U9 R9; (try dsimp only); (try k_fold)); walk_say "CONTRACT gyR")
  dsimp only [JCl, JClE, RVal, RTup]
  k_fill
  intros
  rename_i hpre hroom hunits hret
  have hp1 := hpre
  refine wpAny_call ?_
  k_dflt (refine' code_def ?k1 ?k2 ?k3 ?k4 ?k5 ?kA ?kF ?kK ?k6 ?k7 ?k8 ?k9 ?kB ?_ ?c2 ?c3 ?c4 ?c5; (case kA => exact rfl); (case kF => exact rfl); (case kK => assumption); (case k1 => k_asm); (case k2 => k_asm); (case k3 => k_asm); (case k4 => k_asm); (case k5 => k_asm); (case k6 => k_is); (case k7 => k_is); (case k8 => ktr_room); (case k9 => exact binds_K (by k_in) rfl (by k_is) rfl rfl rfl); (case c5 => decide); (case kB => exact locs rfl); (case c2 => exact rfl); (case c3 => exact rfl); (case c4 => exact rfl); k_whole; intro g' L' h' FG' F' N' B' X' T'; (try dsimp only); (try k_lift B'); (try k_fold))
  k_steps
  skip
  all_goals ((rename Heap.UpToSlots _ _ => jU); (rename RaisedK _ _ _ _ _ _ _ _ => jR); exact hret _ _ _ _ _ _ (by with_reducible assumption) jU (raised_sub jR (by intro p hp; repeat (first | exact hp | apply List.mem_cons_of_mem))))
set_option maxRecDepth 100000 in
set_option maxHeartbeats 8000000 in
theorem C_h9 (w : World) (n : Int) (y : Int) (t_y : Tok) (ev : Bool) : JCl w 200 [.int y t_y, .bool ev] 11 (Gnd y 11 15 n) (RTup (fy (if ev = true then n - 1 else n)) (fm (if ev = true then n - 1 else n)) (fd (if ev = true then n - 1 else n))) := by
  k_with_none
  w_top off
  k_with "eval Name" => (k_here; (with_reducible show wpAny _ _ (eval (Expr.Name _ _) (envOf _ _ _ _ _)) _ _ _); (with_reducible rename Fr _ _ _ _ => kF); k_dflt (refine' name_K kF ?J1k1 ?J1k2 ?J1k3 ?_; (case J1k1 => k_asm); (case J1k2 => k_asm); (case J1k3 => k_is); k_whole))
  k_with "storeName" => (k_here; (with_reducible show wpAny _ _ (storeName _ _ (Value.int _ _)) _ _ _); k_dflt (refine' JB.store_int ?J2F ?J2N ?_ ?J2a ?J2b; (case J2F => k_asm); (case J2N => k_asm); (case J2a => rfl); (case J2b => rfl); k_whole; intro t h' F' N'; (try k_sweep)))
  k_with "eval Call" => (k_here; (with_reducible show wpAny _ _ (eval (Expr.Call (Expr.Name _ _) _ [] _) _) _ _ _); refine PyProof.Rows.Call_ ?_)
  k_with "call builtin:divmod" => (k_here; k_dflt (refine' JB.divmod_J ?J4k1 ?J4k2 ?J4k3 ?J4k4 ?_; (case J4k1 => k_asm); (case J4k2 => k_asm); (case J4k3 => decide); (case J4k4 => exact PyProof.noPylong_of_log2 (by decide +kernel)); intro D' h' F' N' l1; (try k_lt l1)))
  k_with "execs cons" => (k_here; (with_reducible show wpAny _ _ _ _ _ (Shared.mk _ _ _ (_ + 1 + 1 + 1) _)); (with_reducible refine JB.gen_toks ?_); intro tk)
  k_with "execs nil" => (k_here; (with_reducible show wpAny _ _ _ _ _ (Shared.mk _ _ _ (_ + 1 + 1 + 1) _)); (with_reducible refine JB.gen_toks ?_); intro tk)
  k_with "call ref" => (k_here; (with_reducible show wpAny _ _ (call (Value.ref 120) _) _ _ _); k_dflt (refine' JB.C_gyF _ _ _ _ _ _ _ _ ?J7k1 ?J7k2 ?J7k3 ?J7k4 ?J7k5 ?J7kK ?J7kp ?J7kd ?J7ku ?_; (case J7k1 => first | k_asm | ktn_no "jb: the frames below"); (case J7k2 => first | k_asm | ktn_no "jb: the frame"); (case J7k3 => first | k_asm | ktn_no "jb: the written part"); (case J7k4 => first | k_asm | ktn_no "jb: the ledger"); (case J7k5 => first | k_asm | ktn_no "jb: the top's facts"); (case J7kK => first | exact rfl | assumption | ktn_no "jb: the caller is no def"); (case J7kd => first | ktr_room | ktn_no "jb: the frames' room"); (case J7ku => first | ktr_units | ktn_no "jb: the C units"); (case J7kp => first | (exact ⟨by first | decide | with_reducible assumption, by with_reducible assumption⟩) | trivial | ((try dsimp only); first | with_reducible assumption | omega) | ktn_no "jb: what the claim asks"); intro t9 h9 tk9 F9 N9; (try dsimp only); (try k_fold)); walk_say "CONTRACT gyF")
  k_with "call ref" => (k_here; (with_reducible show wpAny _ _ (call (Value.ref 57) _) _ _ _); k_dflt (refine' JB.C_from_jd _ _ _ ?J8k1 ?J8k2 ?J8k3 ?J8k4 ?J8k5 ?J8kK ?J8kp ?J8kd ?J8ku ?_; (case J8k1 => first | k_asm | ktn_no "jb: the frames below"); (case J8k2 => first | k_asm | ktn_no "jb: the frame"); (case J8k3 => first | k_asm | ktn_no "jb: the written part"); (case J8k4 => first | k_asm | ktn_no "jb: the ledger"); (case J8k5 => first | k_asm | ktn_no "jb: the top's facts"); (case J8kK => first | exact rfl | assumption | ktn_no "jb: the caller is no def"); (case J8kd => first | ktr_room | ktn_no "jb: the frames' room"); (case J8ku => first | ktr_units | ktn_no "jb: the C units"); (case J8kp => first | (fail) | trivial | ((try dsimp only); first | with_reducible assumption | omega) | ktn_no "jb: what the claim asks"); intro D9 t1 t2 t3 k9 h9 tk9 F9 N9; (try dsimp only); (try k_fold)); walk_say "CONTRACT from_jd")
  k_with "eval Name" => (k_here; (with_reducible show wpAny _ _ (eval (Expr.Name (Str.ofString "jd") _) _) _ _ _); k_dflt (refine' PyProof.Rows.ld ?J9k1 ?J9k2 ?_; (case J9k1 => k_asm); (case J9k2 => assumption)))
  k_with "loadName" => (k_here; (with_reducible show wpAny _ _ (loadName _ (Str.ofString "jd")) _ _ _); k_dflt (refine' PyProof.Rows.ldn ?J10k1 ?J10k2 ?_; (case J10k1 => k_asm); (case J10k2 => assumption)))
  dsimp only [JCl, RVal, RTup]
  k_fill
  intros
  rename_i hpre hroom hunits hret
  have hp1 := hpre
  refine wpAny_call ?_
  k_dflt (refine' code_def ?k1 ?k2 ?k3 ?k4 ?k5 ?kA ?kF ?kK ?k6 ?k7 ?k8 ?k9 ?kB ?_ ?c2 ?c3 ?c4 ?c5; (case kA => exact rfl); (case kF => exact rfl); (case kK => assumption); (case k1 => k_asm); (case k2 => k_asm); (case k3 => k_asm); (case k4 => k_asm); (case k5 => k_asm); (case k6 => k_is); (case k7 => k_is); (case k8 => ktr_room); (case k9 => exact binds_K (by k_in) rfl (by k_is) rfl rfl rfl); (case c5 => decide); (case kB => exact locs rfl); (case c2 => exact rfl); (case c3 => exact rfl); (case c4 => exact rfl); k_whole; intro g' L' h' FG' F' N' B' X' T'; (try dsimp only); (try k_lift B'); (try k_fold))
  repeat' ((fail_if_success (with_reducible show wpAny _ _ (execs (Stmt.If (Expr.Name _ _) _ _ _ :: _) _) _ _ _)); (first | (k_unfold; (try dsimp only)) | (k_end; wrow_close) | walk1 | (dsimp only; walk1) | (leave1; walk_say "STEP leave1"; try dsimp only) | fail "no step"))
  have gJ := True.intro
  (rename PyProof.Rows.Fr _ _ _ _ => jF)
  (rename PyProof.Rows.News _ _ _ _ => jN)
  refine execs_cut1 (GCutS jF jN (fun m2 => (∃ v t, m2 (Str.ofString "jd") = some (.int v t) ∧ v = (if ev = true then n - 1 else n)))) ?_ ?_
  · k_steps
    all_goals ((rename PyProof.Rows.Fr _ _ _ _ => jF9); (rename PyProof.Rows.News _ _ _ _ => jN9); first | refine ⟨_, _, _, rfl, jF9, jN9, ⟨_, _, gJ, ?_⟩⟩ | refine ⟨_, _, _, rfl, jF9, jN9, ⟨_, _, rfl, ?_⟩⟩)
    all_goals first | exact JB.join_ev (by with_reducible assumption) | exact (if_pos (by with_reducible assumption)).symm | exact (if_neg (by with_reducible assumption)).symm | exact (if_neg (JB.ne_true (by with_reducible assumption))).symm
  intro s2 hP
  obtain ⟨h2, tk2, m2, hs2, F2, N2, ⟨vJ, tJ, gJ, eJ⟩⟩ := hP
  subst hs2
  subst eJ
  clear jF jN
  k_steps
  skip
  all_goals ((rename PyProof.Rows.Fr _ _ _ _ => jF); (rename PyProof.Rows.News _ _ _ _ => jN); refine tup_ret hret jF (by first | exact jN | exact news_skip jN) ?_ ?_ ?_)
  all_goals (law_clear; (rfl))
set_option maxRecDepth 100000 in
set_option maxHeartbeats 8000000 in
theorem C_e9 (w : World) (y : Int) (t_y : Tok) (ev : Bool) : JClE w 200 [.int y t_y, .bool ev] 11 (NGnd y 11 15)  := by
  k_with_none
  w_top off
  k_with "eval Name" => (k_here; (with_reducible show wpAny _ _ (eval (Expr.Name _ _) (envOf _ _ _ _ _)) _ _ _); (with_reducible rename Fr _ _ _ _ => kF); k_dflt (refine' name_K kF ?J1k1 ?J1k2 ?J1k3 ?_; (case J1k1 => k_asm); (case J1k2 => k_asm); (case J1k3 => k_is); k_whole))
  k_with "storeName" => (k_here; (with_reducible show wpAny _ _ (storeName _ _ (Value.int _ _)) _ _ _); k_dflt (refine' JB.store_int ?J2F ?J2N ?_ ?J2a ?J2b; (case J2F => k_asm); (case J2N => k_asm); (case J2a => rfl); (case J2b => rfl); k_whole; intro t h' F' N'; (try k_sweep)))
  k_with "eval Call" => (k_here; (with_reducible show wpAny _ _ (eval (Expr.Call (Expr.Name _ _) _ [] _) _) _ _ _); refine PyProof.Rows.Call_ ?_)
  k_with "call builtin:divmod" => (k_here; k_dflt (refine' JB.divmod_J ?J4k1 ?J4k2 ?J4k3 ?J4k4 ?_; (case J4k1 => k_asm); (case J4k2 => k_asm); (case J4k3 => decide); (case J4k4 => exact PyProof.noPylong_of_log2 (by decide +kernel)); intro D' h' F' N' l1; (try k_lt l1)))
  k_with "execs cons" => (k_here; (with_reducible show wpAny _ _ _ _ _ (Shared.mk _ _ _ (_ + 1 + 1 + 1) _)); (with_reducible refine JB.gen_toks ?_); intro tk)
  k_with "execs nil" => (k_here; (with_reducible show wpAny _ _ _ _ _ (Shared.mk _ _ _ (_ + 1 + 1 + 1) _)); (with_reducible refine JB.gen_toks ?_); intro tk)
  k_with "call ref" => (k_here; (with_reducible show wpAny _ _ (call (Value.ref 120) _) _ _ _); k_dflt (refine' JB.C_gyR _ _ _ _ _ _ _ ?J7k1 ?J7k2 ?J7k3 ?J7k4 ?J7k5 ?J7kK ?J7kp ?J7kd ?J7ku ?_; (case J7k1 => first | k_asm | ktn_no "jb: the frames below"); (case J7k2 => first | k_asm | ktn_no "jb: the frame"); (case J7k3 => first | k_asm | ktn_no "jb: the written part"); (case J7k4 => first | k_asm | ktn_no "jb: the ledger"); (case J7k5 => first | k_asm | ktn_no "jb: the top's facts"); (case J7kK => first | exact rfl | assumption | ktn_no "jb: the caller is no def"); (case J7kd => first | ktr_room | ktn_no "jb: the frames' room"); (case J7ku => first | ktr_units | ktn_no "jb: the C units"); (case J7kp => first | (exact ⟨by first | decide | with_reducible assumption, by with_reducible assumption⟩) | trivial | ((try dsimp only); first | with_reducible assumption | omega) | ktn_no "jb: what the claim asks"); intro e9 t9 xs9 g9 h9 tk9 F9 U9 R9; (try dsimp only); (try k_fold)); walk_say "CONTRACT gyR")
  dsimp only [JCl, JClE, RVal, RTup]
  k_fill
  intros
  rename_i hpre hroom hunits hret
  have hp1 := hpre
  refine wpAny_call ?_
  k_dflt (refine' code_def ?k1 ?k2 ?k3 ?k4 ?k5 ?kA ?kF ?kK ?k6 ?k7 ?k8 ?k9 ?kB ?_ ?c2 ?c3 ?c4 ?c5; (case kA => exact rfl); (case kF => exact rfl); (case kK => assumption); (case k1 => k_asm); (case k2 => k_asm); (case k3 => k_asm); (case k4 => k_asm); (case k5 => k_asm); (case k6 => k_is); (case k7 => k_is); (case k8 => ktr_room); (case k9 => exact binds_K (by k_in) rfl (by k_is) rfl rfl rfl); (case c5 => decide); (case kB => exact locs rfl); (case c2 => exact rfl); (case c3 => exact rfl); (case c4 => exact rfl); k_whole; intro g' L' h' FG' F' N' B' X' T'; (try dsimp only); (try k_lift B'); (try k_fold))
  k_steps
  skip
  all_goals ((rename Heap.UpToSlots _ _ => jU); (rename RaisedK _ _ _ _ _ _ _ _ => jR); exact hret _ _ _ _ _ _ (by with_reducible assumption) jU (raised_sub jR (by intro p hp; repeat (first | exact hp | apply List.mem_cons_of_mem))))
set_option maxRecDepth 100000 in
set_option maxHeartbeats 8000000 in
theorem C_h10 (w : World) (n : Int) (y : Int) (t_y : Tok) (ev : Bool) : JCl w 208 [.int y t_y, .bool ev] 11 (Gnd y 5 9 n) (RTup (fy (if ev = true then (if n % 7 = 5 then n + 1 else n) - 1 else (if n % 7 = 5 then n + 1 else n))) (fm (if ev = true then (if n % 7 = 5 then n + 1 else n) - 1 else (if n % 7 = 5 then n + 1 else n))) (fd (if ev = true then (if n % 7 = 5 then n + 1 else n) - 1 else (if n % 7 = 5 then n + 1 else n)))) := by
  k_with_none
  w_top off
  k_with "eval Name" => (k_here; (with_reducible show wpAny _ _ (eval (Expr.Name _ _) (envOf _ _ _ _ _)) _ _ _); (with_reducible rename Fr _ _ _ _ => kF); k_dflt (refine' name_K kF ?J1k1 ?J1k2 ?J1k3 ?_; (case J1k1 => k_asm); (case J1k2 => k_asm); (case J1k3 => k_is); k_whole))
  k_with "storeName" => (k_here; (with_reducible show wpAny _ _ (storeName _ _ (Value.int _ _)) _ _ _); k_dflt (refine' JB.store_int ?J2F ?J2N ?_ ?J2a ?J2b; (case J2F => k_asm); (case J2N => k_asm); (case J2a => rfl); (case J2b => rfl); k_whole; intro t h' F' N'; (try k_sweep)))
  k_with "eval Call" => (k_here; (with_reducible show wpAny _ _ (eval (Expr.Call (Expr.Name _ _) _ [] _) _) _ _ _); refine PyProof.Rows.Call_ ?_)
  k_with "call builtin:divmod" => (k_here; k_dflt (refine' JB.divmod_J ?J4k1 ?J4k2 ?J4k3 ?J4k4 ?_; (case J4k1 => k_asm); (case J4k2 => k_asm); (case J4k3 => decide); (case J4k4 => exact PyProof.noPylong_of_log2 (by decide +kernel)); intro D' h' F' N' l1; (try k_lt l1)))
  k_with "execs cons" => (k_here; (with_reducible show wpAny _ _ _ _ _ (Shared.mk _ _ _ (_ + 1 + 1 + 1) _)); (with_reducible refine JB.gen_toks ?_); intro tk)
  k_with "execs nil" => (k_here; (with_reducible show wpAny _ _ _ _ _ (Shared.mk _ _ _ (_ + 1 + 1 + 1) _)); (with_reducible refine JB.gen_toks ?_); intro tk)
  k_with "call ref" => (k_here; (with_reducible show wpAny _ _ (call (Value.ref 120) _) _ _ _); k_dflt (refine' JB.C_gyF _ _ _ _ _ _ _ _ ?J7k1 ?J7k2 ?J7k3 ?J7k4 ?J7k5 ?J7kK ?J7kp ?J7kd ?J7ku ?_; (case J7k1 => first | k_asm | ktn_no "jb: the frames below"); (case J7k2 => first | k_asm | ktn_no "jb: the frame"); (case J7k3 => first | k_asm | ktn_no "jb: the written part"); (case J7k4 => first | k_asm | ktn_no "jb: the ledger"); (case J7k5 => first | k_asm | ktn_no "jb: the top's facts"); (case J7kK => first | exact rfl | assumption | ktn_no "jb: the caller is no def"); (case J7kd => first | ktr_room | ktn_no "jb: the frames' room"); (case J7ku => first | ktr_units | ktn_no "jb: the C units"); (case J7kp => first | (exact ⟨by first | decide | with_reducible assumption, by with_reducible assumption⟩) | trivial | ((try dsimp only); first | with_reducible assumption | omega) | ktn_no "jb: what the claim asks"); intro t9 h9 tk9 F9 N9; (try dsimp only); (try k_fold)); walk_say "CONTRACT gyF")
  k_with "call ref" => (k_here; (with_reducible show wpAny _ _ (call (Value.ref 57) _) _ _ _); k_dflt (refine' JB.C_from_jd _ _ _ ?J8k1 ?J8k2 ?J8k3 ?J8k4 ?J8k5 ?J8kK ?J8kp ?J8kd ?J8ku ?_; (case J8k1 => first | k_asm | ktn_no "jb: the frames below"); (case J8k2 => first | k_asm | ktn_no "jb: the frame"); (case J8k3 => first | k_asm | ktn_no "jb: the written part"); (case J8k4 => first | k_asm | ktn_no "jb: the ledger"); (case J8k5 => first | k_asm | ktn_no "jb: the top's facts"); (case J8kK => first | exact rfl | assumption | ktn_no "jb: the caller is no def"); (case J8kd => first | ktr_room | ktn_no "jb: the frames' room"); (case J8ku => first | ktr_units | ktn_no "jb: the C units"); (case J8kp => first | (fail) | trivial | ((try dsimp only); first | with_reducible assumption | omega) | ktn_no "jb: what the claim asks"); intro D9 t1 t2 t3 k9 h9 tk9 F9 N9; (try dsimp only); (try k_fold)); walk_say "CONTRACT from_jd")
  k_with "call ref" => (k_here; (with_reducible show wpAny _ _ (call (Value.ref 35) _) _ _ _); k_dflt (refine' JB.C_jwday _ _ _ ?J9k1 ?J9k2 ?J9k3 ?J9k4 ?J9k5 ?J9kK ?J9kp ?J9kd ?J9ku ?_; (case J9k1 => first | k_asm | ktn_no "jb: the frames below"); (case J9k2 => first | k_asm | ktn_no "jb: the frame"); (case J9k3 => first | k_asm | ktn_no "jb: the written part"); (case J9k4 => first | k_asm | ktn_no "jb: the ledger"); (case J9k5 => first | k_asm | ktn_no "jb: the top's facts"); (case J9kK => first | exact rfl | assumption | ktn_no "jb: the caller is no def"); (case J9kd => first | ktr_room | ktn_no "jb: the frames' room"); (case J9ku => first | ktr_units | ktn_no "jb: the C units"); (case J9kp => first | (fail) | trivial | ((try dsimp only); first | with_reducible assumption | omega) | ktn_no "jb: what the claim asks"); intro t9 h9 tk9 F9 N9; (try dsimp only); (try k_fold)); walk_say "CONTRACT jwday")
  k_with "eval Name" => (k_here; (with_reducible show wpAny _ _ (eval (Expr.Name (Str.ofString "jd") _) _) _ _ _); k_dflt (refine' PyProof.Rows.ld ?J10k1 ?J10k2 ?_; (case J10k1 => k_asm); (case J10k2 => assumption)))
  k_with "loadName" => (k_here; (with_reducible show wpAny _ _ (loadName _ (Str.ofString "jd")) _ _ _); k_dflt (refine' PyProof.Rows.ldn ?J11k1 ?J11k2 ?_; (case J11k1 => k_asm); (case J11k2 => assumption)))
  k_with "eval Name" => (k_here; (with_reducible show wpAny _ _ (eval (Expr.Name (Str.ofString "eve") _) _) _ _ _); k_dflt (refine' PyProof.Rows.ld ?J12k1 ?J12k2 ?_; (case J12k1 => k_asm); (case J12k2 => assumption)))
  k_with "loadName" => (k_here; (with_reducible show wpAny _ _ (loadName _ (Str.ofString "eve")) _ _ _); k_dflt (refine' PyProof.Rows.ldn ?J13k1 ?J13k2 ?_; (case J13k1 => k_asm); (case J13k2 => assumption)))
  dsimp only [JCl, RVal, RTup]
  k_fill
  intros
  rename_i hpre hroom hunits hret
  have hp1 := hpre
  refine wpAny_call ?_
  k_dflt (refine' code_def ?k1 ?k2 ?k3 ?k4 ?k5 ?kA ?kF ?kK ?k6 ?k7 ?k8 ?k9 ?kB ?_ ?c2 ?c3 ?c4 ?c5; (case kA => exact rfl); (case kF => exact rfl); (case kK => assumption); (case k1 => k_asm); (case k2 => k_asm); (case k3 => k_asm); (case k4 => k_asm); (case k5 => k_asm); (case k6 => k_is); (case k7 => k_is); (case k8 => ktr_room); (case k9 => exact binds_K (by k_in) rfl (by k_is) rfl rfl rfl); (case c5 => decide); (case kB => exact locs rfl); (case c2 => exact rfl); (case c3 => exact rfl); (case c4 => exact rfl); k_whole; intro g' L' h' FG' F' N' B' X' T'; (try dsimp only); (try k_lift B'); (try k_fold))
  repeat' ((fail_if_success (with_reducible show wpAny _ _ (execs (Stmt.If (Expr.Compare _ _ _ _) _ _ _ :: _) _) _ _ _)); (first | (k_unfold; (try dsimp only)) | (k_end; wrow_close) | walk1 | (dsimp only; walk1) | (leave1; walk_say "STEP leave1"; try dsimp only) | fail "no step"))
  have gJ := True.intro
  (rename PyProof.Rows.Fr _ _ _ _ => jF)
  (rename PyProof.Rows.News _ _ _ _ => jN)
  refine execs_cut1 (GCutS jF jN (fun m2 => (∃ v t, m2 (Str.ofString "jd") = some (.int v t) ∧ v = if n % 7 = 5 then n + 1 else n) ∧ m2 (Str.ofString "eve") = some (.bool ev))) ?_ ?_
  · k_steps
    all_goals ((rename PyProof.Rows.Fr _ _ _ _ => jF9); (rename PyProof.Rows.News _ _ _ _ => jN9); first | refine ⟨_, _, _, rfl, jF9, jN9, ⟨_, _, gJ, ?_⟩, rfl⟩ | refine ⟨_, _, _, rfl, jF9, jN9, ⟨_, _, rfl, ?_⟩, rfl⟩)
    all_goals first | exact JB.join_ev (by with_reducible assumption) | exact (if_pos (by with_reducible assumption)).symm | exact (if_neg (by with_reducible assumption)).symm | exact (if_neg (JB.ne_true (by with_reducible assumption))).symm
  intro s2 hP
  obtain ⟨h2, tk2, m2, hs2, F2, N2, ⟨vJ, tJ, gJ, eJ⟩, gE⟩ := hP
  subst hs2
  subst eJ
  clear jF jN
  have gJ9 := gJ
  (rename PyProof.Rows.Fr _ _ _ _ => jF)
  (rename PyProof.Rows.News _ _ _ _ => jN)
  refine execs_cut1 (GCutS jF jN (fun m2 => (∃ v t, m2 (Str.ofString "jd") = some (.int v t) ∧ v = (if ev = true then (if n % 7 = 5 then n + 1 else n) - 1 else (if n % 7 = 5 then n + 1 else n))))) ?_ ?_
  · k_steps
    all_goals ((rename PyProof.Rows.Fr _ _ _ _ => jF9); (rename PyProof.Rows.News _ _ _ _ => jN9); first | refine ⟨_, _, _, rfl, jF9, jN9, ⟨_, _, gJ, ?_⟩⟩ | refine ⟨_, _, _, rfl, jF9, jN9, ⟨_, _, rfl, ?_⟩⟩)
    all_goals first | exact JB.join_ev (by with_reducible assumption) | exact (if_pos (by with_reducible assumption)).symm | exact (if_neg (by with_reducible assumption)).symm | exact (if_neg (JB.ne_true (by with_reducible assumption))).symm
  intro s2 hP
  obtain ⟨h2, tk2, m2, hs2, F2, N2, ⟨vJ, tJ, gJ, eJ⟩⟩ := hP
  subst hs2
  subst eJ
  clear jF jN
  k_steps
  skip
  all_goals ((rename PyProof.Rows.Fr _ _ _ _ => jF); (rename PyProof.Rows.News _ _ _ _ => jN); refine tup_ret hret jF (by first | exact jN | exact news_skip jN) ?_ ?_ ?_)
  all_goals (law_clear; (rfl))
set_option maxRecDepth 100000 in
set_option maxHeartbeats 8000000 in
theorem C_e10 (w : World) (y : Int) (t_y : Tok) (ev : Bool) : JClE w 208 [.int y t_y, .bool ev] 11 (NGnd y 5 9)  := by
  k_with_none
  w_top off
  k_with "eval Name" => (k_here; (with_reducible show wpAny _ _ (eval (Expr.Name _ _) (envOf _ _ _ _ _)) _ _ _); (with_reducible rename Fr _ _ _ _ => kF); k_dflt (refine' name_K kF ?J1k1 ?J1k2 ?J1k3 ?_; (case J1k1 => k_asm); (case J1k2 => k_asm); (case J1k3 => k_is); k_whole))
  k_with "storeName" => (k_here; (with_reducible show wpAny _ _ (storeName _ _ (Value.int _ _)) _ _ _); k_dflt (refine' JB.store_int ?J2F ?J2N ?_ ?J2a ?J2b; (case J2F => k_asm); (case J2N => k_asm); (case J2a => rfl); (case J2b => rfl); k_whole; intro t h' F' N'; (try k_sweep)))
  k_with "eval Call" => (k_here; (with_reducible show wpAny _ _ (eval (Expr.Call (Expr.Name _ _) _ [] _) _) _ _ _); refine PyProof.Rows.Call_ ?_)
  k_with "call builtin:divmod" => (k_here; k_dflt (refine' JB.divmod_J ?J4k1 ?J4k2 ?J4k3 ?J4k4 ?_; (case J4k1 => k_asm); (case J4k2 => k_asm); (case J4k3 => decide); (case J4k4 => exact PyProof.noPylong_of_log2 (by decide +kernel)); intro D' h' F' N' l1; (try k_lt l1)))
  k_with "execs cons" => (k_here; (with_reducible show wpAny _ _ _ _ _ (Shared.mk _ _ _ (_ + 1 + 1 + 1) _)); (with_reducible refine JB.gen_toks ?_); intro tk)
  k_with "execs nil" => (k_here; (with_reducible show wpAny _ _ _ _ _ (Shared.mk _ _ _ (_ + 1 + 1 + 1) _)); (with_reducible refine JB.gen_toks ?_); intro tk)
  k_with "call ref" => (k_here; (with_reducible show wpAny _ _ (call (Value.ref 120) _) _ _ _); k_dflt (refine' JB.C_gyR _ _ _ _ _ _ _ ?J7k1 ?J7k2 ?J7k3 ?J7k4 ?J7k5 ?J7kK ?J7kp ?J7kd ?J7ku ?_; (case J7k1 => first | k_asm | ktn_no "jb: the frames below"); (case J7k2 => first | k_asm | ktn_no "jb: the frame"); (case J7k3 => first | k_asm | ktn_no "jb: the written part"); (case J7k4 => first | k_asm | ktn_no "jb: the ledger"); (case J7k5 => first | k_asm | ktn_no "jb: the top's facts"); (case J7kK => first | exact rfl | assumption | ktn_no "jb: the caller is no def"); (case J7kd => first | ktr_room | ktn_no "jb: the frames' room"); (case J7ku => first | ktr_units | ktn_no "jb: the C units"); (case J7kp => first | (exact ⟨by first | decide | with_reducible assumption, by with_reducible assumption⟩) | trivial | ((try dsimp only); first | with_reducible assumption | omega) | ktn_no "jb: what the claim asks"); intro e9 t9 xs9 g9 h9 tk9 F9 U9 R9; (try dsimp only); (try k_fold)); walk_say "CONTRACT gyR")
  dsimp only [JCl, JClE, RVal, RTup]
  k_fill
  intros
  rename_i hpre hroom hunits hret
  have hp1 := hpre
  refine wpAny_call ?_
  k_dflt (refine' code_def ?k1 ?k2 ?k3 ?k4 ?k5 ?kA ?kF ?kK ?k6 ?k7 ?k8 ?k9 ?kB ?_ ?c2 ?c3 ?c4 ?c5; (case kA => exact rfl); (case kF => exact rfl); (case kK => assumption); (case k1 => k_asm); (case k2 => k_asm); (case k3 => k_asm); (case k4 => k_asm); (case k5 => k_asm); (case k6 => k_is); (case k7 => k_is); (case k8 => ktr_room); (case k9 => exact binds_K (by k_in) rfl (by k_is) rfl rfl rfl); (case c5 => decide); (case kB => exact locs rfl); (case c2 => exact rfl); (case c3 => exact rfl); (case c4 => exact rfl); k_whole; intro g' L' h' FG' F' N' B' X' T'; (try dsimp only); (try k_lift B'); (try k_fold))
  k_steps
  skip
  all_goals ((rename Heap.UpToSlots _ _ => jU); (rename RaisedK _ _ _ _ _ _ _ _ => jR); exact hret _ _ _ _ _ _ (by with_reducible assumption) jU (raised_sub jR (by intro p hp; repeat (first | exact hp | apply List.mem_cons_of_mem))))
set_option maxRecDepth 100000 in
set_option maxHeartbeats 8000000 in
theorem C_feastF (w : World) (n : Int) (k : Int) (t_k : Tok) (y : Int) (t_y : Tok) (ev : Bool) : JCl w 269 [.int k t_k, .int y t_y, .bool ev] 12 ((0 ≤ k ∧ k ≤ 10) ∧ Gnd y (kmon k y) (kda k) n) (RTup (fy (kdue k n ev)) (fm (kdue k n ev)) (fd (kdue k n ev))) := by
  k_with_none
  w_top off
  k_with "eval Name" => (k_here; (with_reducible show wpAny _ _ (eval (Expr.Name _ _) (envOf _ _ _ _ _)) _ _ _); (with_reducible rename Fr _ _ _ _ => kF); k_dflt (refine' name_K kF ?J1k1 ?J1k2 ?J1k3 ?_; (case J1k1 => k_asm); (case J1k2 => k_asm); (case J1k3 => k_is); k_whole))
  k_with "storeName" => (k_here; (with_reducible show wpAny _ _ (storeName _ _ (Value.int _ _)) _ _ _); k_dflt (refine' JB.store_int ?J2F ?J2N ?_ ?J2a ?J2b; (case J2F => k_asm); (case J2N => k_asm); (case J2a => rfl); (case J2b => rfl); k_whole; intro t h' F' N'; (try k_sweep)))
  k_with "eval Call" => (k_here; (with_reducible show wpAny _ _ (eval (Expr.Call (Expr.Name _ _) _ [] _) _) _ _ _); refine PyProof.Rows.Call_ ?_)
  k_with "call builtin:divmod" => (k_here; k_dflt (refine' JB.divmod_J ?J4k1 ?J4k2 ?J4k3 ?J4k4 ?_; (case J4k1 => k_asm); (case J4k2 => k_asm); (case J4k3 => decide); (case J4k4 => exact PyProof.noPylong_of_log2 (by decide +kernel)); intro D' h' F' N' l1; (try k_lt l1)))
  k_with "execs cons" => (k_here; (with_reducible show wpAny _ _ _ _ _ (Shared.mk _ _ _ (_ + 1 + 1 + 1) _)); (with_reducible refine JB.gen_toks ?_); intro tk)
  k_with "execs nil" => (k_here; (with_reducible show wpAny _ _ _ _ _ (Shared.mk _ _ _ (_ + 1 + 1 + 1) _)); (with_reducible refine JB.gen_toks ?_); intro tk)
  k_with "call ref" => (k_here; (with_reducible show wpAny _ _ (call (Value.ref 128) _) _ _ _); k_dflt (refine' JB.C_h0 _ _ _ _ _ ?J7k1 ?J7k2 ?J7k3 ?J7k4 ?J7k5 ?J7kK ?J7kp ?J7kd ?J7ku ?_; (case J7k1 => first | k_asm | ktn_no "jb: the frames below"); (case J7k2 => first | k_asm | ktn_no "jb: the frame"); (case J7k3 => first | k_asm | ktn_no "jb: the written part"); (case J7k4 => first | k_asm | ktn_no "jb: the ledger"); (case J7k5 => first | k_asm | ktn_no "jb: the top's facts"); (case J7kK => first | exact rfl | assumption | ktn_no "jb: the caller is no def"); (case J7kd => first | ktr_room | ktn_no "jb: the frames' room"); (case J7ku => first | ktr_units | ktn_no "jb: the C units"); (case J7kp => first | (exact JB.gk_0 (by with_reducible assumption) (by with_reducible assumption)) | trivial | ((try dsimp only); first | with_reducible assumption | omega) | ktn_no "jb: what the claim asks"); intro D9 t1 t2 t3 k9 h9 tk9 F9 N9; (try dsimp only); (try k_fold)); walk_say "CONTRACT h0")
  k_with "call ref" => (k_here; (with_reducible show wpAny _ _ (call (Value.ref 136) _) _ _ _); k_dflt (refine' JB.C_h1 _ _ _ _ _ ?J8k1 ?J8k2 ?J8k3 ?J8k4 ?J8k5 ?J8kK ?J8kp ?J8kd ?J8ku ?_; (case J8k1 => first | k_asm | ktn_no "jb: the frames below"); (case J8k2 => first | k_asm | ktn_no "jb: the frame"); (case J8k3 => first | k_asm | ktn_no "jb: the written part"); (case J8k4 => first | k_asm | ktn_no "jb: the ledger"); (case J8k5 => first | k_asm | ktn_no "jb: the top's facts"); (case J8kK => first | exact rfl | assumption | ktn_no "jb: the caller is no def"); (case J8kd => first | ktr_room | ktn_no "jb: the frames' room"); (case J8ku => first | ktr_units | ktn_no "jb: the C units"); (case J8kp => first | (exact JB.gk_1 (by with_reducible assumption) (by with_reducible assumption)) | trivial | ((try dsimp only); first | with_reducible assumption | omega) | ktn_no "jb: what the claim asks"); intro D9 t1 t2 t3 k9 h9 tk9 F9 N9; (try dsimp only); (try k_fold)); walk_say "CONTRACT h1")
  k_with "call ref" => (k_here; (with_reducible show wpAny _ _ (call (Value.ref 144) _) _ _ _); k_dflt (refine' JB.C_h2 _ _ _ _ _ ?J9k1 ?J9k2 ?J9k3 ?J9k4 ?J9k5 ?J9kK ?J9kp ?J9kd ?J9ku ?_; (case J9k1 => first | k_asm | ktn_no "jb: the frames below"); (case J9k2 => first | k_asm | ktn_no "jb: the frame"); (case J9k3 => first | k_asm | ktn_no "jb: the written part"); (case J9k4 => first | k_asm | ktn_no "jb: the ledger"); (case J9k5 => first | k_asm | ktn_no "jb: the top's facts"); (case J9kK => first | exact rfl | assumption | ktn_no "jb: the caller is no def"); (case J9kd => first | ktr_room | ktn_no "jb: the frames' room"); (case J9ku => first | ktr_units | ktn_no "jb: the C units"); (case J9kp => first | (exact JB.gk_2 (by with_reducible assumption) (by with_reducible assumption)) | trivial | ((try dsimp only); first | with_reducible assumption | omega) | ktn_no "jb: what the claim asks"); intro D9 t1 t2 t3 k9 h9 tk9 F9 N9; (try dsimp only); (try k_fold)); walk_say "CONTRACT h2")
  k_with "call ref" => (k_here; (with_reducible show wpAny _ _ (call (Value.ref 152) _) _ _ _); k_dflt (refine' JB.C_h3 _ _ _ _ _ ?J10k1 ?J10k2 ?J10k3 ?J10k4 ?J10k5 ?J10kK ?J10kp ?J10kd ?J10ku ?_; (case J10k1 => first | k_asm | ktn_no "jb: the frames below"); (case J10k2 => first | k_asm | ktn_no "jb: the frame"); (case J10k3 => first | k_asm | ktn_no "jb: the written part"); (case J10k4 => first | k_asm | ktn_no "jb: the ledger"); (case J10k5 => first | k_asm | ktn_no "jb: the top's facts"); (case J10kK => first | exact rfl | assumption | ktn_no "jb: the caller is no def"); (case J10kd => first | ktr_room | ktn_no "jb: the frames' room"); (case J10ku => first | ktr_units | ktn_no "jb: the C units"); (case J10kp => first | (exact JB.gk_3 (by with_reducible assumption) (by with_reducible assumption)) | trivial | ((try dsimp only); first | with_reducible assumption | omega) | ktn_no "jb: what the claim asks"); intro D9 t1 t2 t3 k9 h9 tk9 F9 N9; (try dsimp only); (try k_fold)); walk_say "CONTRACT h3")
  k_with "call ref" => (k_here; (with_reducible show wpAny _ _ (call (Value.ref 160) _) _ _ _); k_dflt (refine' JB.C_h4 _ _ _ _ _ ?J11k1 ?J11k2 ?J11k3 ?J11k4 ?J11k5 ?J11kK ?J11kp ?J11kd ?J11ku ?_; (case J11k1 => first | k_asm | ktn_no "jb: the frames below"); (case J11k2 => first | k_asm | ktn_no "jb: the frame"); (case J11k3 => first | k_asm | ktn_no "jb: the written part"); (case J11k4 => first | k_asm | ktn_no "jb: the ledger"); (case J11k5 => first | k_asm | ktn_no "jb: the top's facts"); (case J11kK => first | exact rfl | assumption | ktn_no "jb: the caller is no def"); (case J11kd => first | ktr_room | ktn_no "jb: the frames' room"); (case J11ku => first | ktr_units | ktn_no "jb: the C units"); (case J11kp => first | (exact JB.gk_4 (by with_reducible assumption) (by with_reducible assumption)) | trivial | ((try dsimp only); first | with_reducible assumption | omega) | ktn_no "jb: what the claim asks"); intro D9 t1 t2 t3 k9 h9 tk9 F9 N9; (try dsimp only); (try k_fold)); walk_say "CONTRACT h4")
  k_with "call ref" => (k_here; (with_reducible show wpAny _ _ (call (Value.ref 168) _) _ _ _); k_dflt (refine' JB.C_h5 _ _ _ _ _ ?J12k1 ?J12k2 ?J12k3 ?J12k4 ?J12k5 ?J12kK ?J12kp ?J12kd ?J12ku ?_; (case J12k1 => first | k_asm | ktn_no "jb: the frames below"); (case J12k2 => first | k_asm | ktn_no "jb: the frame"); (case J12k3 => first | k_asm | ktn_no "jb: the written part"); (case J12k4 => first | k_asm | ktn_no "jb: the ledger"); (case J12k5 => first | k_asm | ktn_no "jb: the top's facts"); (case J12kK => first | exact rfl | assumption | ktn_no "jb: the caller is no def"); (case J12kd => first | ktr_room | ktn_no "jb: the frames' room"); (case J12ku => first | ktr_units | ktn_no "jb: the C units"); (case J12kp => first | (exact JB.gk_5 (by with_reducible assumption) (by with_reducible assumption)) | trivial | ((try dsimp only); first | with_reducible assumption | omega) | ktn_no "jb: what the claim asks"); intro D9 t1 t2 t3 k9 h9 tk9 F9 N9; (try dsimp only); (try k_fold)); walk_say "CONTRACT h5")
  k_with "call ref" => (k_here; (with_reducible show wpAny _ _ (call (Value.ref 176) _) _ _ _); k_dflt (refine' JB.C_h6 _ _ _ _ _ ?J13k1 ?J13k2 ?J13k3 ?J13k4 ?J13k5 ?J13kK ?J13kp ?J13kd ?J13ku ?_; (case J13k1 => first | k_asm | ktn_no "jb: the frames below"); (case J13k2 => first | k_asm | ktn_no "jb: the frame"); (case J13k3 => first | k_asm | ktn_no "jb: the written part"); (case J13k4 => first | k_asm | ktn_no "jb: the ledger"); (case J13k5 => first | k_asm | ktn_no "jb: the top's facts"); (case J13kK => first | exact rfl | assumption | ktn_no "jb: the caller is no def"); (case J13kd => first | ktr_room | ktn_no "jb: the frames' room"); (case J13ku => first | ktr_units | ktn_no "jb: the C units"); (case J13kp => first | (exact JB.gk_6 (by with_reducible assumption) (by with_reducible assumption)) | trivial | ((try dsimp only); first | with_reducible assumption | omega) | ktn_no "jb: what the claim asks"); intro D9 t1 t2 t3 k9 h9 tk9 F9 N9; (try dsimp only); (try k_fold)); walk_say "CONTRACT h6")
  k_with "call ref" => (k_here; (with_reducible show wpAny _ _ (call (Value.ref 184) _) _ _ _); k_dflt (refine' JB.C_h7 _ _ _ _ _ ?J14k1 ?J14k2 ?J14k3 ?J14k4 ?J14k5 ?J14kK ?J14kp ?J14kd ?J14ku ?_; (case J14k1 => first | k_asm | ktn_no "jb: the frames below"); (case J14k2 => first | k_asm | ktn_no "jb: the frame"); (case J14k3 => first | k_asm | ktn_no "jb: the written part"); (case J14k4 => first | k_asm | ktn_no "jb: the ledger"); (case J14k5 => first | k_asm | ktn_no "jb: the top's facts"); (case J14kK => first | exact rfl | assumption | ktn_no "jb: the caller is no def"); (case J14kd => first | ktr_room | ktn_no "jb: the frames' room"); (case J14ku => first | ktr_units | ktn_no "jb: the C units"); (case J14kp => first | (exact JB.gk_7 (by with_reducible assumption) (by with_reducible assumption)) | trivial | ((try dsimp only); first | with_reducible assumption | omega) | ktn_no "jb: what the claim asks"); intro D9 t1 t2 t3 k9 h9 tk9 F9 N9; (try dsimp only); (try k_fold)); walk_say "CONTRACT h7")
  k_with "call ref" => (k_here; (with_reducible show wpAny _ _ (call (Value.ref 192) _) _ _ _); k_dflt (refine' JB.C_h8 _ _ _ _ _ ?J15k1 ?J15k2 ?J15k3 ?J15k4 ?J15k5 ?J15kK ?J15kp ?J15kd ?J15ku ?_; (case J15k1 => first | k_asm | ktn_no "jb: the frames below"); (case J15k2 => first | k_asm | ktn_no "jb: the frame"); (case J15k3 => first | k_asm | ktn_no "jb: the written part"); (case J15k4 => first | k_asm | ktn_no "jb: the ledger"); (case J15k5 => first | k_asm | ktn_no "jb: the top's facts"); (case J15kK => first | exact rfl | assumption | ktn_no "jb: the caller is no def"); (case J15kd => first | ktr_room | ktn_no "jb: the frames' room"); (case J15ku => first | ktr_units | ktn_no "jb: the C units"); (case J15kp => first | (exact JB.gk_8 (by with_reducible assumption) (by with_reducible assumption)) | trivial | ((try dsimp only); first | with_reducible assumption | omega) | ktn_no "jb: what the claim asks"); intro D9 t1 t2 t3 k9 h9 tk9 F9 N9; (try dsimp only); (try k_fold)); walk_say "CONTRACT h8")
  k_with "call ref" => (k_here; (with_reducible show wpAny _ _ (call (Value.ref 200) _) _ _ _); k_dflt (refine' JB.C_h9 _ _ _ _ _ ?J16k1 ?J16k2 ?J16k3 ?J16k4 ?J16k5 ?J16kK ?J16kp ?J16kd ?J16ku ?_; (case J16k1 => first | k_asm | ktn_no "jb: the frames below"); (case J16k2 => first | k_asm | ktn_no "jb: the frame"); (case J16k3 => first | k_asm | ktn_no "jb: the written part"); (case J16k4 => first | k_asm | ktn_no "jb: the ledger"); (case J16k5 => first | k_asm | ktn_no "jb: the top's facts"); (case J16kK => first | exact rfl | assumption | ktn_no "jb: the caller is no def"); (case J16kd => first | ktr_room | ktn_no "jb: the frames' room"); (case J16ku => first | ktr_units | ktn_no "jb: the C units"); (case J16kp => first | (exact JB.gk_9 (by with_reducible assumption) (by with_reducible assumption)) | trivial | ((try dsimp only); first | with_reducible assumption | omega) | ktn_no "jb: what the claim asks"); intro D9 t1 t2 t3 k9 h9 tk9 F9 N9; (try dsimp only); (try k_fold)); walk_say "CONTRACT h9")
  k_with "call ref" => (k_here; (with_reducible show wpAny _ _ (call (Value.ref 208) _) _ _ _); k_dflt (refine' JB.C_h10 _ _ _ _ _ ?J17k1 ?J17k2 ?J17k3 ?J17k4 ?J17k5 ?J17kK ?J17kp ?J17kd ?J17ku ?_; (case J17k1 => first | k_asm | ktn_no "jb: the frames below"); (case J17k2 => first | k_asm | ktn_no "jb: the frame"); (case J17k3 => first | k_asm | ktn_no "jb: the written part"); (case J17k4 => first | k_asm | ktn_no "jb: the ledger"); (case J17k5 => first | k_asm | ktn_no "jb: the top's facts"); (case J17kK => first | exact rfl | assumption | ktn_no "jb: the caller is no def"); (case J17kd => first | ktr_room | ktn_no "jb: the frames' room"); (case J17ku => first | ktr_units | ktn_no "jb: the C units"); (case J17kp => first | (exact JB.gk_10 (by assumption) (JB.k_10 (by assumption) (by with_reducible assumption) (by with_reducible assumption) (by with_reducible assumption) (by with_reducible assumption) (by with_reducible assumption) (by with_reducible assumption) (by with_reducible assumption) (by with_reducible assumption) (by with_reducible assumption) (by with_reducible assumption))) | trivial | ((try dsimp only); first | with_reducible assumption | omega) | ktn_no "jb: what the claim asks"); intro D9 t1 t2 t3 k9 h9 tk9 F9 N9; (try dsimp only); (try k_fold)); walk_say "CONTRACT h10")
  dsimp only [JCl, RVal, RTup]
  k_fill
  intros
  rename_i hpre hroom hunits hret
  obtain ⟨hk, hp1⟩ := hpre
  refine wpAny_call ?_
  k_dflt cell_enter
  k_steps
  skip
  all_goals ((rename PyProof.Rows.Fr _ _ _ _ => jF); (rename PyProof.Rows.News _ _ _ _ => jN); refine tup_ret hret jF (by first | exact jN | exact news_skip jN) ?_ ?_ ?_)
  all_goals (law_clear; (first | (have e9 := (by with_reducible assumption : k = _); exact congrArg _ (kdue_lt e9 (by decide))) | exact congrArg _ (kdue_last (k_10 (by assumption) (by with_reducible assumption) (by with_reducible assumption) (by with_reducible assumption) (by with_reducible assumption) (by with_reducible assumption) (by with_reducible assumption) (by with_reducible assumption) (by with_reducible assumption) (by with_reducible assumption) (by with_reducible assumption)))))
set_option maxRecDepth 100000 in
set_option maxHeartbeats 8000000 in
theorem C_feastR (w : World) (k : Int) (t_k : Tok) (y : Int) (t_y : Tok) (ev : Bool) : JClE w 269 [.int k t_k, .int y t_y, .bool ev] 12 ((0 ≤ k ∧ k ≤ 10) ∧ NGnd y (kmon k y) (kda k))  := by
  k_with_none
  w_top off
  k_with "eval Name" => (k_here; (with_reducible show wpAny _ _ (eval (Expr.Name _ _) (envOf _ _ _ _ _)) _ _ _); (with_reducible rename Fr _ _ _ _ => kF); k_dflt (refine' name_K kF ?J1k1 ?J1k2 ?J1k3 ?_; (case J1k1 => k_asm); (case J1k2 => k_asm); (case J1k3 => k_is); k_whole))
  k_with "storeName" => (k_here; (with_reducible show wpAny _ _ (storeName _ _ (Value.int _ _)) _ _ _); k_dflt (refine' JB.store_int ?J2F ?J2N ?_ ?J2a ?J2b; (case J2F => k_asm); (case J2N => k_asm); (case J2a => rfl); (case J2b => rfl); k_whole; intro t h' F' N'; (try k_sweep)))
  k_with "eval Call" => (k_here; (with_reducible show wpAny _ _ (eval (Expr.Call (Expr.Name _ _) _ [] _) _) _ _ _); refine PyProof.Rows.Call_ ?_)
  k_with "call builtin:divmod" => (k_here; k_dflt (refine' JB.divmod_J ?J4k1 ?J4k2 ?J4k3 ?J4k4 ?_; (case J4k1 => k_asm); (case J4k2 => k_asm); (case J4k3 => decide); (case J4k4 => exact PyProof.noPylong_of_log2 (by decide +kernel)); intro D' h' F' N' l1; (try k_lt l1)))
  k_with "execs cons" => (k_here; (with_reducible show wpAny _ _ _ _ _ (Shared.mk _ _ _ (_ + 1 + 1 + 1) _)); (with_reducible refine JB.gen_toks ?_); intro tk)
  k_with "execs nil" => (k_here; (with_reducible show wpAny _ _ _ _ _ (Shared.mk _ _ _ (_ + 1 + 1 + 1) _)); (with_reducible refine JB.gen_toks ?_); intro tk)
  k_with "call ref" => (k_here; (with_reducible show wpAny _ _ (call (Value.ref 128) _) _ _ _); k_dflt (refine' JB.C_e0 _ _ _ _ ?J7k1 ?J7k2 ?J7k3 ?J7k4 ?J7k5 ?J7kK ?J7kp ?J7kd ?J7ku ?_; (case J7k1 => first | k_asm | ktn_no "jb: the frames below"); (case J7k2 => first | k_asm | ktn_no "jb: the frame"); (case J7k3 => first | k_asm | ktn_no "jb: the written part"); (case J7k4 => first | k_asm | ktn_no "jb: the ledger"); (case J7k5 => first | k_asm | ktn_no "jb: the top's facts"); (case J7kK => first | exact rfl | assumption | ktn_no "jb: the caller is no def"); (case J7kd => first | ktr_room | ktn_no "jb: the frames' room"); (case J7ku => first | ktr_units | ktn_no "jb: the C units"); (case J7kp => first | (exact JB.nk_0 (by with_reducible assumption) (by with_reducible assumption)) | trivial | ((try dsimp only); first | with_reducible assumption | omega) | ktn_no "jb: what the claim asks"); intro e9 t9 xs9 g9 h9 tk9 F9 U9 R9; (try dsimp only); (try k_fold)); walk_say "CONTRACT e0")
  k_with "call ref" => (k_here; (with_reducible show wpAny _ _ (call (Value.ref 136) _) _ _ _); k_dflt (refine' JB.C_e1 _ _ _ _ ?J8k1 ?J8k2 ?J8k3 ?J8k4 ?J8k5 ?J8kK ?J8kp ?J8kd ?J8ku ?_; (case J8k1 => first | k_asm | ktn_no "jb: the frames below"); (case J8k2 => first | k_asm | ktn_no "jb: the frame"); (case J8k3 => first | k_asm | ktn_no "jb: the written part"); (case J8k4 => first | k_asm | ktn_no "jb: the ledger"); (case J8k5 => first | k_asm | ktn_no "jb: the top's facts"); (case J8kK => first | exact rfl | assumption | ktn_no "jb: the caller is no def"); (case J8kd => first | ktr_room | ktn_no "jb: the frames' room"); (case J8ku => first | ktr_units | ktn_no "jb: the C units"); (case J8kp => first | (exact JB.nk_1 (by with_reducible assumption) (by with_reducible assumption)) | trivial | ((try dsimp only); first | with_reducible assumption | omega) | ktn_no "jb: what the claim asks"); intro e9 t9 xs9 g9 h9 tk9 F9 U9 R9; (try dsimp only); (try k_fold)); walk_say "CONTRACT e1")
  k_with "call ref" => (k_here; (with_reducible show wpAny _ _ (call (Value.ref 144) _) _ _ _); k_dflt (refine' JB.C_e2 _ _ _ _ ?J9k1 ?J9k2 ?J9k3 ?J9k4 ?J9k5 ?J9kK ?J9kp ?J9kd ?J9ku ?_; (case J9k1 => first | k_asm | ktn_no "jb: the frames below"); (case J9k2 => first | k_asm | ktn_no "jb: the frame"); (case J9k3 => first | k_asm | ktn_no "jb: the written part"); (case J9k4 => first | k_asm | ktn_no "jb: the ledger"); (case J9k5 => first | k_asm | ktn_no "jb: the top's facts"); (case J9kK => first | exact rfl | assumption | ktn_no "jb: the caller is no def"); (case J9kd => first | ktr_room | ktn_no "jb: the frames' room"); (case J9ku => first | ktr_units | ktn_no "jb: the C units"); (case J9kp => first | (exact JB.nk_2 (by with_reducible assumption) (by with_reducible assumption)) | trivial | ((try dsimp only); first | with_reducible assumption | omega) | ktn_no "jb: what the claim asks"); intro e9 t9 xs9 g9 h9 tk9 F9 U9 R9; (try dsimp only); (try k_fold)); walk_say "CONTRACT e2")
  k_with "call ref" => (k_here; (with_reducible show wpAny _ _ (call (Value.ref 152) _) _ _ _); k_dflt (refine' JB.C_e3 _ _ _ _ ?J10k1 ?J10k2 ?J10k3 ?J10k4 ?J10k5 ?J10kK ?J10kp ?J10kd ?J10ku ?_; (case J10k1 => first | k_asm | ktn_no "jb: the frames below"); (case J10k2 => first | k_asm | ktn_no "jb: the frame"); (case J10k3 => first | k_asm | ktn_no "jb: the written part"); (case J10k4 => first | k_asm | ktn_no "jb: the ledger"); (case J10k5 => first | k_asm | ktn_no "jb: the top's facts"); (case J10kK => first | exact rfl | assumption | ktn_no "jb: the caller is no def"); (case J10kd => first | ktr_room | ktn_no "jb: the frames' room"); (case J10ku => first | ktr_units | ktn_no "jb: the C units"); (case J10kp => first | (exact JB.nk_3 (by with_reducible assumption) (by with_reducible assumption)) | trivial | ((try dsimp only); first | with_reducible assumption | omega) | ktn_no "jb: what the claim asks"); intro e9 t9 xs9 g9 h9 tk9 F9 U9 R9; (try dsimp only); (try k_fold)); walk_say "CONTRACT e3")
  k_with "call ref" => (k_here; (with_reducible show wpAny _ _ (call (Value.ref 160) _) _ _ _); k_dflt (refine' JB.C_e4 _ _ _ _ ?J11k1 ?J11k2 ?J11k3 ?J11k4 ?J11k5 ?J11kK ?J11kp ?J11kd ?J11ku ?_; (case J11k1 => first | k_asm | ktn_no "jb: the frames below"); (case J11k2 => first | k_asm | ktn_no "jb: the frame"); (case J11k3 => first | k_asm | ktn_no "jb: the written part"); (case J11k4 => first | k_asm | ktn_no "jb: the ledger"); (case J11k5 => first | k_asm | ktn_no "jb: the top's facts"); (case J11kK => first | exact rfl | assumption | ktn_no "jb: the caller is no def"); (case J11kd => first | ktr_room | ktn_no "jb: the frames' room"); (case J11ku => first | ktr_units | ktn_no "jb: the C units"); (case J11kp => first | (exact JB.nk_4 (by with_reducible assumption) (by with_reducible assumption)) | trivial | ((try dsimp only); first | with_reducible assumption | omega) | ktn_no "jb: what the claim asks"); intro e9 t9 xs9 g9 h9 tk9 F9 U9 R9; (try dsimp only); (try k_fold)); walk_say "CONTRACT e4")
  k_with "call ref" => (k_here; (with_reducible show wpAny _ _ (call (Value.ref 168) _) _ _ _); k_dflt (refine' JB.C_e5 _ _ _ _ ?J12k1 ?J12k2 ?J12k3 ?J12k4 ?J12k5 ?J12kK ?J12kp ?J12kd ?J12ku ?_; (case J12k1 => first | k_asm | ktn_no "jb: the frames below"); (case J12k2 => first | k_asm | ktn_no "jb: the frame"); (case J12k3 => first | k_asm | ktn_no "jb: the written part"); (case J12k4 => first | k_asm | ktn_no "jb: the ledger"); (case J12k5 => first | k_asm | ktn_no "jb: the top's facts"); (case J12kK => first | exact rfl | assumption | ktn_no "jb: the caller is no def"); (case J12kd => first | ktr_room | ktn_no "jb: the frames' room"); (case J12ku => first | ktr_units | ktn_no "jb: the C units"); (case J12kp => first | (exact JB.nk_5 (by with_reducible assumption) (by with_reducible assumption)) | trivial | ((try dsimp only); first | with_reducible assumption | omega) | ktn_no "jb: what the claim asks"); intro e9 t9 xs9 g9 h9 tk9 F9 U9 R9; (try dsimp only); (try k_fold)); walk_say "CONTRACT e5")
  k_with "call ref" => (k_here; (with_reducible show wpAny _ _ (call (Value.ref 176) _) _ _ _); k_dflt (refine' JB.C_e6 _ _ _ _ ?J13k1 ?J13k2 ?J13k3 ?J13k4 ?J13k5 ?J13kK ?J13kp ?J13kd ?J13ku ?_; (case J13k1 => first | k_asm | ktn_no "jb: the frames below"); (case J13k2 => first | k_asm | ktn_no "jb: the frame"); (case J13k3 => first | k_asm | ktn_no "jb: the written part"); (case J13k4 => first | k_asm | ktn_no "jb: the ledger"); (case J13k5 => first | k_asm | ktn_no "jb: the top's facts"); (case J13kK => first | exact rfl | assumption | ktn_no "jb: the caller is no def"); (case J13kd => first | ktr_room | ktn_no "jb: the frames' room"); (case J13ku => first | ktr_units | ktn_no "jb: the C units"); (case J13kp => first | (exact JB.nk_6 (by with_reducible assumption) (by with_reducible assumption)) | trivial | ((try dsimp only); first | with_reducible assumption | omega) | ktn_no "jb: what the claim asks"); intro e9 t9 xs9 g9 h9 tk9 F9 U9 R9; (try dsimp only); (try k_fold)); walk_say "CONTRACT e6")
  k_with "call ref" => (k_here; (with_reducible show wpAny _ _ (call (Value.ref 184) _) _ _ _); k_dflt (refine' JB.C_e7 _ _ _ _ ?J14k1 ?J14k2 ?J14k3 ?J14k4 ?J14k5 ?J14kK ?J14kp ?J14kd ?J14ku ?_; (case J14k1 => first | k_asm | ktn_no "jb: the frames below"); (case J14k2 => first | k_asm | ktn_no "jb: the frame"); (case J14k3 => first | k_asm | ktn_no "jb: the written part"); (case J14k4 => first | k_asm | ktn_no "jb: the ledger"); (case J14k5 => first | k_asm | ktn_no "jb: the top's facts"); (case J14kK => first | exact rfl | assumption | ktn_no "jb: the caller is no def"); (case J14kd => first | ktr_room | ktn_no "jb: the frames' room"); (case J14ku => first | ktr_units | ktn_no "jb: the C units"); (case J14kp => first | (exact JB.nk_7 (by with_reducible assumption) (by with_reducible assumption)) | trivial | ((try dsimp only); first | with_reducible assumption | omega) | ktn_no "jb: what the claim asks"); intro e9 t9 xs9 g9 h9 tk9 F9 U9 R9; (try dsimp only); (try k_fold)); walk_say "CONTRACT e7")
  k_with "call ref" => (k_here; (with_reducible show wpAny _ _ (call (Value.ref 192) _) _ _ _); k_dflt (refine' JB.C_e8 _ _ _ _ ?J15k1 ?J15k2 ?J15k3 ?J15k4 ?J15k5 ?J15kK ?J15kp ?J15kd ?J15ku ?_; (case J15k1 => first | k_asm | ktn_no "jb: the frames below"); (case J15k2 => first | k_asm | ktn_no "jb: the frame"); (case J15k3 => first | k_asm | ktn_no "jb: the written part"); (case J15k4 => first | k_asm | ktn_no "jb: the ledger"); (case J15k5 => first | k_asm | ktn_no "jb: the top's facts"); (case J15kK => first | exact rfl | assumption | ktn_no "jb: the caller is no def"); (case J15kd => first | ktr_room | ktn_no "jb: the frames' room"); (case J15ku => first | ktr_units | ktn_no "jb: the C units"); (case J15kp => first | (exact JB.nk_8 (by with_reducible assumption) (by with_reducible assumption)) | trivial | ((try dsimp only); first | with_reducible assumption | omega) | ktn_no "jb: what the claim asks"); intro e9 t9 xs9 g9 h9 tk9 F9 U9 R9; (try dsimp only); (try k_fold)); walk_say "CONTRACT e8")
  k_with "call ref" => (k_here; (with_reducible show wpAny _ _ (call (Value.ref 200) _) _ _ _); k_dflt (refine' JB.C_e9 _ _ _ _ ?J16k1 ?J16k2 ?J16k3 ?J16k4 ?J16k5 ?J16kK ?J16kp ?J16kd ?J16ku ?_; (case J16k1 => first | k_asm | ktn_no "jb: the frames below"); (case J16k2 => first | k_asm | ktn_no "jb: the frame"); (case J16k3 => first | k_asm | ktn_no "jb: the written part"); (case J16k4 => first | k_asm | ktn_no "jb: the ledger"); (case J16k5 => first | k_asm | ktn_no "jb: the top's facts"); (case J16kK => first | exact rfl | assumption | ktn_no "jb: the caller is no def"); (case J16kd => first | ktr_room | ktn_no "jb: the frames' room"); (case J16ku => first | ktr_units | ktn_no "jb: the C units"); (case J16kp => first | (exact JB.nk_9 (by with_reducible assumption) (by with_reducible assumption)) | trivial | ((try dsimp only); first | with_reducible assumption | omega) | ktn_no "jb: what the claim asks"); intro e9 t9 xs9 g9 h9 tk9 F9 U9 R9; (try dsimp only); (try k_fold)); walk_say "CONTRACT e9")
  k_with "call ref" => (k_here; (with_reducible show wpAny _ _ (call (Value.ref 208) _) _ _ _); k_dflt (refine' JB.C_e10 _ _ _ _ ?J17k1 ?J17k2 ?J17k3 ?J17k4 ?J17k5 ?J17kK ?J17kp ?J17kd ?J17ku ?_; (case J17k1 => first | k_asm | ktn_no "jb: the frames below"); (case J17k2 => first | k_asm | ktn_no "jb: the frame"); (case J17k3 => first | k_asm | ktn_no "jb: the written part"); (case J17k4 => first | k_asm | ktn_no "jb: the ledger"); (case J17k5 => first | k_asm | ktn_no "jb: the top's facts"); (case J17kK => first | exact rfl | assumption | ktn_no "jb: the caller is no def"); (case J17kd => first | ktr_room | ktn_no "jb: the frames' room"); (case J17ku => first | ktr_units | ktn_no "jb: the C units"); (case J17kp => first | (exact JB.nk_10 (by assumption) (JB.k_10 (by assumption) (by with_reducible assumption) (by with_reducible assumption) (by with_reducible assumption) (by with_reducible assumption) (by with_reducible assumption) (by with_reducible assumption) (by with_reducible assumption) (by with_reducible assumption) (by with_reducible assumption) (by with_reducible assumption))) | trivial | ((try dsimp only); first | with_reducible assumption | omega) | ktn_no "jb: what the claim asks"); intro e9 t9 xs9 g9 h9 tk9 F9 U9 R9; (try dsimp only); (try k_fold)); walk_say "CONTRACT e10")
  dsimp only [JCl, JClE, RVal, RTup]
  k_fill
  intros
  rename_i hpre hroom hunits hret
  obtain ⟨hk, hp1⟩ := hpre
  refine wpAny_call ?_
  k_dflt cell_enter
  k_steps
  skip
  all_goals ((rename Heap.UpToSlots _ _ => jU); (rename RaisedK _ _ _ _ _ _ _ _ => jR); exact hret _ _ _ _ _ _ (by with_reducible assumption) jU (raised_sub jR (by intro p hp; repeat (first | exact hp | apply List.mem_cons_of_mem))))
end JB
end
section
open PySem PySem.W PyProof.Rows
namespace JB
local macro_rules | `(tactic| walk_at $s:str) => `(tactic| k_extra $s)
local macro_rules | `(tactic| k_all) => `(tactic| (refine' JB.all_ne ?ja ?jb; (case ja => with_reducible assumption); (case jb => ((try dsimp only); first | omega | exact Nat.le_succ _ | exact Nat.le_refl _))))
set_option maxRecDepth 100000 in
set_option maxHeartbeats 8000000 in
theorem look : PySem.Challenge.rw_jb0013_01.Holds := hd (And.intro left (by
  k_with_none
  k_with "eval Name" => (k_here; (with_reducible show wpAny _ _ (eval (Expr.Name _ _) (envOf _ _ _ _ _)) _ _ _); (with_reducible rename Fr _ _ _ _ => kF); k_dflt (refine' name_K kF ?J1k1 ?J1k2 ?J1k3 ?_; (case J1k1 => k_asm); (case J1k2 => k_asm); (case J1k3 => k_is); k_whole))
  k_with "storeName" => (k_here; (with_reducible show wpAny _ _ (storeName _ _ (Value.int _ _)) _ _ _); k_dflt (refine' JB.store_int ?J2F ?J2N ?_ ?J2a ?J2b; (case J2F => k_asm); (case J2N => k_asm); (case J2a => rfl); (case J2b => rfl); k_whole; intro t h' F' N'; (try k_sweep)))
  k_with "eval Call" => (k_here; (with_reducible show wpAny _ _ (eval (Expr.Call (Expr.Name _ _) _ [] _) _) _ _ _); refine PyProof.Rows.Call_ ?_)
  k_with "call builtin:divmod" => (k_here; k_dflt (refine' JB.divmod_J ?J4k1 ?J4k2 ?J4k3 ?J4k4 ?_; (case J4k1 => k_asm); (case J4k2 => k_asm); (case J4k3 => decide); (case J4k4 => exact PyProof.noPylong_of_log2 (by decide +kernel)); intro D' h' F' N' l1; (try k_lt l1)))
  k_with "execs cons" => (k_here; (with_reducible show wpAny _ _ _ _ _ (Shared.mk _ _ _ (_ + 1 + 1 + 1) _)); (with_reducible refine JB.gen_toks ?_); intro tk)
  k_with "execs nil" => (k_here; (with_reducible show wpAny _ _ _ _ _ (Shared.mk _ _ _ (_ + 1 + 1 + 1) _)); (with_reducible refine JB.gen_toks ?_); intro tk)
  k_with "call ref" => (k_here; (with_reducible show wpAny _ _ (call (Value.ref 262) _) _ _ _); k_dflt (refine' JB.C_law_foundF _ _ _ _ _ _ _ _ ?J7k1 ?J7k2 ?J7k3 ?J7k4 ?J7k5 ?J7kK ?J7kp ?J7kd ?J7ku ?_; (case J7k1 => first | k_asm | ktn_no "jb: the frames below"); (case J7k2 => first | k_asm | ktn_no "jb: the frame"); (case J7k3 => first | k_asm | ktn_no "jb: the written part"); (case J7k4 => first | k_asm | ktn_no "jb: the ledger"); (case J7k5 => first | k_asm | ktn_no "jb: the top's facts"); (case J7kK => first | exact rfl | assumption | ktn_no "jb: the caller is no def"); (case J7kd => first | ktr_room | ktn_no "jb: the frames' room"); (case J7ku => first | ktr_units | ktn_no "jb: the C units"); (case J7kp => first | (assumption) | trivial | ((try dsimp only); first | with_reducible assumption | omega) | ktn_no "jb: what the claim asks"); intro t9 h9 tk9 F9 N9; (try dsimp only); (try k_fold)); walk_say "CONTRACT law_foundF")
  k_with "call ref" => (k_here; (with_reducible show wpAny _ _ (call (Value.ref 262) _) _ _ _); k_dflt (refine' JB.C_law_foundN _ _ _ _ _ _ _ ?J8k1 ?J8k2 ?J8k3 ?J8k4 ?J8k5 ?J8kK ?J8kp ?J8kd ?J8ku ?_; (case J8k1 => first | k_asm | ktn_no "jb: the frames below"); (case J8k2 => first | k_asm | ktn_no "jb: the frame"); (case J8k3 => first | k_asm | ktn_no "jb: the written part"); (case J8k4 => first | k_asm | ktn_no "jb: the ledger"); (case J8k5 => first | k_asm | ktn_no "jb: the top's facts"); (case J8kK => first | exact rfl | assumption | ktn_no "jb: the caller is no def"); (case J8kd => first | ktr_room | ktn_no "jb: the frames' room"); (case J8ku => first | ktr_units | ktn_no "jb: the C units"); (case J8kp => first | (assumption) | trivial | ((try dsimp only); first | with_reducible assumption | omega) | ktn_no "jb: what the claim asks"); intro t9 h9 tk9 F9 N9; (try dsimp only); (try k_fold)); walk_say "CONTRACT law_foundN")
  k_with "call ref" => (k_here; (with_reducible show wpAny _ _ (call (Value.ref 120) _) _ _ _); k_dflt (refine' JB.C_gyF _ _ _ _ _ _ _ _ ?J9k1 ?J9k2 ?J9k3 ?J9k4 ?J9k5 ?J9kK ?J9kp ?J9kd ?J9ku ?_; (case J9k1 => first | k_asm | ktn_no "jb: the frames below"); (case J9k2 => first | k_asm | ktn_no "jb: the frame"); (case J9k3 => first | k_asm | ktn_no "jb: the written part"); (case J9k4 => first | k_asm | ktn_no "jb: the ledger"); (case J9k5 => first | k_asm | ktn_no "jb: the top's facts"); (case J9kK => first | exact rfl | assumption | ktn_no "jb: the caller is no def"); (case J9kd => first | ktr_room | ktn_no "jb: the frames' room"); (case J9ku => first | ktr_units | ktn_no "jb: the C units"); (case J9kp => first | (exact ⟨by first | decide | with_reducible assumption, by with_reducible assumption⟩) | trivial | ((try dsimp only); first | with_reducible assumption | omega) | ktn_no "jb: what the claim asks"); intro t9 h9 tk9 F9 N9; (try dsimp only); (try k_fold)); walk_say "CONTRACT gyF")
  k_with "call ref" => (k_here; (with_reducible show wpAny _ _ (call (Value.ref 120) _) _ _ _); k_dflt (refine' JB.C_gyR _ _ _ _ _ _ _ ?J10k1 ?J10k2 ?J10k3 ?J10k4 ?J10k5 ?J10kK ?J10kp ?J10kd ?J10ku ?_; (case J10k1 => first | k_asm | ktn_no "jb: the frames below"); (case J10k2 => first | k_asm | ktn_no "jb: the frame"); (case J10k3 => first | k_asm | ktn_no "jb: the written part"); (case J10k4 => first | k_asm | ktn_no "jb: the ledger"); (case J10k5 => first | k_asm | ktn_no "jb: the top's facts"); (case J10kK => first | exact rfl | assumption | ktn_no "jb: the caller is no def"); (case J10kd => first | ktr_room | ktn_no "jb: the frames' room"); (case J10ku => first | ktr_units | ktn_no "jb: the C units"); (case J10kp => first | (exact ⟨by first | decide | with_reducible assumption, by with_reducible assumption⟩) | trivial | ((try dsimp only); first | with_reducible assumption | omega) | ktn_no "jb: what the claim asks"); intro e9 t9 xs9 g9 h9 tk9 F9 U9 R9; (try dsimp only); (try k_fold)); walk_say "CONTRACT gyR")
  k_with "call ref" => (k_here; (with_reducible show wpAny _ _ (call (Value.ref 255) _) _ _ _); k_dflt (refine' JB.C_law_date _ _ _ ?J11k1 ?J11k2 ?J11k3 ?J11k4 ?J11k5 ?J11kK ?J11kp ?J11kd ?J11ku ?_; (case J11k1 => first | k_asm | ktn_no "jb: the frames below"); (case J11k2 => first | k_asm | ktn_no "jb: the frame"); (case J11k3 => first | k_asm | ktn_no "jb: the written part"); (case J11k4 => first | k_asm | ktn_no "jb: the ledger"); (case J11k5 => first | k_asm | ktn_no "jb: the top's facts"); (case J11kK => first | exact rfl | assumption | ktn_no "jb: the caller is no def"); (case J11kd => first | ktr_room | ktn_no "jb: the frames' room"); (case J11ku => first | ktr_units | ktn_no "jb: the C units"); (case J11kp => first | (fail) | trivial | ((try dsimp only); first | with_reducible assumption | omega) | ktn_no "jb: what the claim asks"); intro D9 t1 t2 t3 k9 h9 tk9 F9 N9; (try dsimp only); (try k_fold)); walk_say "CONTRACT law_date")
  k_with "call ref" => (k_here; (with_reducible show wpAny _ _ (call (Value.ref 229) _) _ _ _); k_dflt (refine' JB.C_law_long _ _ _ ?J12k1 ?J12k2 ?J12k3 ?J12k4 ?J12k5 ?J12kK ?J12kp ?J12kd ?J12ku ?_; (case J12k1 => first | k_asm | ktn_no "jb: the frames below"); (case J12k2 => first | k_asm | ktn_no "jb: the frame"); (case J12k3 => first | k_asm | ktn_no "jb: the written part"); (case J12k4 => first | k_asm | ktn_no "jb: the ledger"); (case J12k5 => first | k_asm | ktn_no "jb: the top's facts"); (case J12kK => first | exact rfl | assumption | ktn_no "jb: the caller is no def"); (case J12kd => first | ktr_room | ktn_no "jb: the frames' room"); (case J12ku => first | ktr_units | ktn_no "jb: the C units"); (case J12kp => first | (fail) | trivial | ((try dsimp only); first | with_reducible assumption | omega) | ktn_no "jb: what the claim asks"); intro t9 h9 tk9 F9 N9; (try dsimp only); (try k_fold)); walk_say "CONTRACT law_long")
  k_with "call ref" => (k_here; (with_reducible show wpAny _ _ (call (Value.ref 269) _) _ _ _); k_dflt (refine' JB.C_feastF _ _ _ _ _ _ _ ?J13k1 ?J13k2 ?J13k3 ?J13k4 ?J13k5 ?J13kK ?J13kp ?J13kd ?J13ku ?_; (case J13k1 => first | k_asm | ktn_no "jb: the frames below"); (case J13k2 => first | k_asm | ktn_no "jb: the frame"); (case J13k3 => first | k_asm | ktn_no "jb: the written part"); (case J13k4 => first | k_asm | ktn_no "jb: the ledger"); (case J13k5 => first | k_asm | ktn_no "jb: the top's facts"); (case J13kK => first | exact rfl | assumption | ktn_no "jb: the caller is no def"); (case J13kd => first | ktr_room | ktn_no "jb: the frames' room"); (case J13ku => first | ktr_units | ktn_no "jb: the C units"); (case J13kp => first | (exact ⟨by assumption, by assumption⟩) | trivial | ((try dsimp only); first | with_reducible assumption | omega) | ktn_no "jb: what the claim asks"); intro D9 t1 t2 t3 k9 h9 tk9 F9 N9; (try dsimp only); (try k_fold)); walk_say "CONTRACT feastF")
  k_with "call ref" => (k_here; (with_reducible show wpAny _ _ (call (Value.ref 269) _) _ _ _); k_dflt (refine' JB.C_feastR _ _ _ _ _ _ ?J14k1 ?J14k2 ?J14k3 ?J14k4 ?J14k5 ?J14kK ?J14kp ?J14kd ?J14ku ?_; (case J14k1 => first | k_asm | ktn_no "jb: the frames below"); (case J14k2 => first | k_asm | ktn_no "jb: the frame"); (case J14k3 => first | k_asm | ktn_no "jb: the written part"); (case J14k4 => first | k_asm | ktn_no "jb: the ledger"); (case J14k5 => first | k_asm | ktn_no "jb: the top's facts"); (case J14kK => first | exact rfl | assumption | ktn_no "jb: the caller is no def"); (case J14kd => first | ktr_room | ktn_no "jb: the frames' room"); (case J14ku => first | ktr_units | ktn_no "jb: the C units"); (case J14kp => first | (exact ⟨by assumption, by assumption⟩) | trivial | ((try dsimp only); first | with_reducible assumption | omega) | ktn_no "jb: what the claim asks"); intro e9 t9 xs9 g9 h9 tk9 F9 U9 R9; (try dsimp only); (try k_fold)); walk_say "CONTRACT feastR")
  k_with "exec For Name Tuple cons nil" => (k_here; (rename PyProof.Rows.Fr _ _ _ _ => jF); k_dflt (refine PySem.W.For_turns jF ?_))
  k_with "pyIter ref" => (k_here; (with_reducible show wpAny _ _ (pyIter (Value.ref _)) (fun it s₂ => TurnsAt _ _ _ _ _ _ _ _ _ it s₂) _ _); (rename PyProof.Rows.Fr _ _ _ _ => jF); (rename PyProof.Rows.News _ _ _ _ => jN); k_dflt (refine PySem.W.iter_tupTurns rfl jF jN (.head _) rfl rfl ?_; intro I hI))
  k_with "UnrEndW" => (k_here; (rename PyProof.Rows.Fr _ _ _ _ => jF); (rename PyProof.Rows.News _ _ _ _ => jN); k_dflt (first | (refine JB.unrEndW_one jF jN (by assumption) ⟨by k_subL, ?_⟩) | (refine JB.unrEndW_one jF (JB.news_tail jN) (by assumption) ⟨by k_subL, ?_⟩) | (refine JB.unrEndW_one jF (JB.news_tail (JB.news_tail jN)) (by assumption) ⟨by k_subL, ?_⟩)))
  k_with "ite" => (k_here; k_openite; first | (refine ite_neg (by (law_clear; (try simp only [decide_eq_true_eq, beq_iff_eq]); omega)) ?_; walk_say "PRUNED BY OMEGA") | (refine ite_pos (by (law_clear; (try simp only [decide_eq_true_eq, beq_iff_eq]); omega)) ?_; walk_say "PRUNED BY OMEGA"))
  k_with "compareOp NotEq ref ref" => (k_here; (with_reducible show wpAny _ _ (compareOp CmpOp.NotEq (Value.ref _) (Value.ref _)) _ _ _); (rename PyProof.Rows.News _ _ _ _ => jN); k_dflt (refine' JB.ne_tup3_same jN ?J19a ?J19b ?J19u ?_; (case J19a => k_mem); (case J19b => (repeat (first | with_reducible assumption | apply List.mem_cons_of_mem))); (case J19u => ke_room)))
  k_with "noteFrame ref" => (k_here; (rename RaisedK _ _ _ _ _ _ _ _ => rkX); k_dflt (refine' caught_K0 (T' := "ValueError") ?J20K ?J20F ?J20U rkX ?J20T PyProof.Rows.Boot.«ValueError» PySem.F.isExc_ValueError PySem.F.notTuple_ValueError ?J20S ?_ JB.ve1 JB.ve2 JB.ve3 JB.ve4 JB.ve5 ?J20N; (case J20K => assumption); (case J20F => assumption); (case J20U => assumption); (case J20T => k_asm); (case J20S => rw [isSubtype_type]; kernel_rfl); (case J20N => decide)); intro h' n₂ F' N₂ G' N'; (try k_sweep))
  k_with "eval Name" => (k_here; (with_reducible show wpAny _ _ (eval (Expr.Name (Str.ofString "year") _) _) _ _ _); k_dflt (refine' PyProof.Rows.ld ?J21k1 ?J21k2 ?_; (case J21k1 => k_asm); (case J21k2 => assumption)))
  k_with "loadName" => (k_here; (with_reducible show wpAny _ _ (loadName _ (Str.ofString "year")) _ _ _); k_dflt (refine' PyProof.Rows.ldn ?J22k1 ?J22k2 ?_; (case J22k1 => k_asm); (case J22k2 => assumption)))
  k_with "eval Name" => (k_here; (with_reducible show wpAny _ _ (eval (Expr.Name (Str.ofString "eve") _) _) _ _ _); k_dflt (refine' PyProof.Rows.ld ?J23k1 ?J23k2 ?_; (case J23k1 => k_asm); (case J23k2 => assumption)))
  k_with "loadName" => (k_here; (with_reducible show wpAny _ _ (loadName _ (Str.ofString "eve")) _ _ _); k_dflt (refine' PyProof.Rows.ldn ?J24k1 ?J24k2 ?_; (case J24k1 => k_asm); (case J24k2 => assumption)))
  k_with "eval Name" => (k_here; (with_reducible show wpAny _ _ (eval (Expr.Name (Str.ofString "numbers") _) _) _ _ _); k_dflt (refine' PyProof.Rows.ld ?J25k1 ?J25k2 ?_; (case J25k1 => k_asm); (case J25k2 => assumption)))
  k_with "loadName" => (k_here; (with_reducible show wpAny _ _ (loadName _ (Str.ofString "numbers")) _ _ _); k_dflt (refine' PyProof.Rows.ldn ?J26k1 ?J26k2 ?_; (case J26k1 => k_asm); (case J26k2 => assumption)))
  k_with "eval Name" => (k_here; (with_reducible show wpAny _ _ (eval (Expr.Name (Str.ofString "kind") _) _) _ _ _); k_dflt (refine' PyProof.Rows.ld ?J27k1 ?J27k2 ?_; (case J27k1 => k_asm); (case J27k2 => assumption)))
  k_with "loadName" => (k_here; (with_reducible show wpAny _ _ (loadName _ (Str.ofString "kind")) _ _ _); k_dflt (refine' PyProof.Rows.ldn ?J28k1 ?J28k2 ?_; (case J28k1 => k_asm); (case J28k2 => assumption)))
  k_with "eval Name" => (k_here; (with_reducible show wpAny _ _ (eval (Expr.Name (Str.ofString "month") _) _) _ _ _); k_dflt (refine' PyProof.Rows.ld ?J29k1 ?J29k2 ?_; (case J29k1 => k_asm); (case J29k2 => assumption)))
  k_with "loadName" => (k_here; (with_reducible show wpAny _ _ (loadName _ (Str.ofString "month")) _ _ _); k_dflt (refine' PyProof.Rows.ldn ?J30k1 ?J30k2 ?_; (case J30k1 => k_asm); (case J30k2 => assumption)))
  k_with "eval Name" => (k_here; (with_reducible show wpAny _ _ (eval (Expr.Name (Str.ofString "day") _) _) _ _ _); k_dflt (refine' PyProof.Rows.ld ?J31k1 ?J31k2 ?_; (case J31k1 => k_asm); (case J31k2 => assumption)))
  k_with "loadName" => (k_here; (with_reducible show wpAny _ _ (loadName _ (Str.ofString "day")) _ _ _); k_dflt (refine' PyProof.Rows.ldn ?J32k1 ?J32k2 ?_; (case J32k1 => k_asm); (case J32k2 => assumption)))
  k_with "eval Name" => (k_here; (with_reducible show wpAny _ _ (eval (Expr.Name (Str.ofString "due") _) _) _ _ _); k_dflt (refine' PyProof.Rows.ld ?J33k1 ?J33k2 ?_; (case J33k1 => k_asm); (case J33k2 => assumption)))
  k_with "loadName" => (k_here; (with_reducible show wpAny _ _ (loadName _ (Str.ofString "due")) _ _ _); k_dflt (refine' PyProof.Rows.ldn ?J34k1 ?J34k2 ?_; (case J34k1 => k_asm); (case J34k2 => assumption)))
  k_go0
  all_goals try k_fold
  repeat' ((fail_if_success (with_reducible show wpAny _ _ (execs (Stmt.Try _ _ _ _ _ :: _) _) _ _ _)); (first | (k_unfold; (try dsimp only)) | (k_end; wrow_close) | walk1 | (dsimp only; walk1) | (leave1; walk_say "STEP leave1"; try dsimp only) | fail "no step"))
  rename List Int => ns
  (rename PyProof.Rows.Fr _ _ _ _ => jF)
  (rename PyProof.Rows.News _ _ _ _ => jN)
  generalize hY : ((List.take 5 ns ++ [0, 0, 0, 0, 0]).getD (Int.toNat 0) 0).fmod 9999 + 1 = y at jF
  generalize hM : ((List.take 5 ns ++ [0, 0, 0, 0, 0]).getD (Int.toNat 1) 0).fmod 12 + 1 = mo at jF
  generalize hD : ((List.take 5 ns ++ [0, 0, 0, 0, 0]).getD (Int.toNat 2) 0).fmod 29 + 1 = d at jF
  generalize hE : (((List.take 5 ns ++ [0, 0, 0, 0, 0]).getD (Int.toNat 3) 0).fmod 2 == 1) = ev at jF
  have by1 : 1 ≤ y ∧ y ≤ 9999 := by rw [← hY, fm_nn _ (show (0 : Int) ≤ 9999 by decide)]; omega
  have bm1 : 1 ≤ mo ∧ mo ≤ 12 := by rw [← hM, fm_nn _ (show (0 : Int) ≤ 12 by decide)]; omega
  have bd1 : 1 ≤ d ∧ d ≤ 29 := by rw [← hD, fm_nn _ (show (0 : Int) ≤ 29 by decide)]; omega
  have bm13 : 1 ≤ mo ∧ mo ≤ 13 := ⟨bm1.1, by omega⟩
  clear hY hM hD hE
  refine execs_cutP (PCut jF jN y ev) ?_ ?_
  · rcases two_ways by1.1 by1.2 bd1.1 (.inl bm1) with ⟨n, hF, hG⟩ | ⟨hF, hG⟩
    all_goals k_steps
    all_goals first
      | (exfalso; law_clear; omega)
      | ((rename PyProof.Rows.Fr _ _ _ _ => jF9); (rename PyProof.Rows.News _ _ _ _ => jN9); exact ⟨_, _, _, _, rfl, jF9, jN9, ⟨⟨_, rfl⟩, rfl⟩, rfl, by intro p hp; repeat (first | exact hp | apply List.mem_cons_of_mem)⟩)
  · intro s2 hP
    obtain ⟨h9, tk9, m9, nw9, hs2, F9, N9, ⟨⟨tY, gY⟩, gE⟩, gN, sub9⟩ := hP
    subst hs2
    have gN9 := gN.trans rfl
    have hL9 : Heap.IsList h9 _ _ := ⟨_, (N9 _ (sub9 _ (.head _))).1, rfl, _, rfl⟩
    clear jF jN
    repeat' ((fail_if_success (with_reducible show wpAny _ _ (pyIter _) _ _ _)); (first | (k_unfold; (try dsimp only)) | (k_end; wrow_close) | walk1 | (dsimp only; walk1) | (leave1; walk_say "STEP leave1"; try dsimp only) | fail "no step"))
    (rename PyProof.Rows.Fr _ _ _ _ => jF)
    (rename PyProof.Rows.News _ _ _ _ => jN)
    refine PySem.W.iter_tupTurns rfl jF jN (.head _) rfl rfl ?_
    intro I hI
    (refine' kind_loop2 (y := y) (ev := ev) hI [(_, _), (_, _)] ?hk ?hvs ?hg ?hb ?_ ?_; (case hvs => exact rfl); (case hk => k_subL); (case hg => exact ⟨⟨_, gY⟩, gE⟩); (case hb => exact kb2))
    · clear gN gN9 hL9 sub9 gY gE hI bm1 bd1 bm13
      intro nw k tk0 h1 tk1 m1 Q1 k0 k10 F1 N1 g1 hret
      obtain ⟨⟨tY1, gY1⟩, gE1⟩ := g1
      have hk01 : 0 ≤ k ∧ k ≤ 10 := ⟨k0, k10⟩
      repeat' ((fail_if_success (with_reducible show wpAny _ _ (execs (Stmt.Assign _ _ _ :: Stmt.If _ _ _ _ :: _) _) _ _ _)); (first | (k_unfold; (try dsimp only)) | (k_end; wrow_close) | walk1 | (dsimp only; walk1) | (leave1; walk_say "STEP leave1"; try dsimp only) | fail "no step"))
      (rename PyProof.Rows.Fr _ _ _ _ => jF)
      (rename PyProof.Rows.News _ _ _ _ => jN)
      refine execs_cutP (GCut jF jN (fun m2 nw2 => (∃ t, m2 (Str.ofString "year") = some (.int y t)) ∧ m2 (Str.ofString "eve") = some (.bool ev) ∧ (∃ t, m2 (Str.ofString "kind") = some (.int k t)) ∧ (∃ v t, m2 (Str.ofString "month") = some (.int v t) ∧ v = kmon k y) ∧ (∃ t, m2 (Str.ofString "day") = some (.int (kda k) t)) ∧ ∀ p ∈ nw, p ∈ nw2)) ?_ ?_
      · repeat' ((fail_if_success (with_reducible show wpAny _ _ (subscriptTail _ _ _ _) _ _ _)); (first | (k_unfold; (try dsimp only)) | (k_end; wrow_close) | walk1 | (dsimp only; walk1) | (leave1; walk_say "STEP leave1"; try dsimp only) | fail "no step"))
        (rename PyProof.Rows.Fr _ _ _ _ => jF2)
        (rename PyProof.Rows.News _ _ _ _ => jN2)
        (refine' days_at jF2 jN2 ?hl hk01.1 hk01.2 ?hT ?_; (case hl => exact News.isList jN2 (by k_mem)); (case hT => refine ⟨?_, ?_, ?_, ?_, ?_, ?_, ?_, ?_, ?_, ?_, ?_⟩ <;> exact ⟨_, _, _, by k_mem⟩))
        intro T tT1 tT2 hTup
        repeat' (first | (k_unfold; (try dsimp only)) | walk1 | (dsimp only; walk1) | (leave1; walk_say "STEP leave1"; try dsimp only) | fail "no step")
        all_goals ((rename PyProof.Rows.Fr _ _ _ _ => jF9); (rename PyProof.Rows.News _ _ _ _ => jN9); refine ⟨_, _, _, _, rfl, jF9, jN9, ⟨_, gY1⟩, gE1, ⟨_, rfl⟩, ⟨_, _, rfl, ?_⟩, ⟨_, rfl⟩, ?_⟩)
        all_goals first
          | (intro p hp; repeat (first | exact hp | apply List.mem_cons_of_mem))
          | exact kmon_a (by with_reducible assumption) (by with_reducible assumption)
          | exact kmon_b (by with_reducible assumption) (by with_reducible assumption)
          | exact kmon_c (by with_reducible assumption)
      · intro s2 hP
        obtain ⟨h2, tk2, m2, nw2, hs2, F2, N2, ⟨tY2, gY2⟩, gE2, ⟨tK2, gK2⟩, ⟨vM, tM2, gM2, eM⟩, ⟨tD2, gD2⟩, sub2⟩ := hP
        subst hs2
        subst eM
        clear gY1 gE1 jF jN
        rcases kind_ways hk01.1 hk01.2 by1.1 by1.2 with ⟨n, hF, hG⟩ | ⟨hF, hG⟩
        · refine execs_cutP (GCut F2 N2 (fun m3 nw3 => (∃ t, m3 (Str.ofString "year") = some (.int y t)) ∧ m3 (Str.ofString "eve") = some (.bool ev) ∧ (∃ t, m3 (Str.ofString "kind") = some (.int k t)) ∧ (∃ D N t1 t2 t3 c, m3 (Str.ofString "due") = some (.ref D) ∧ (D, tup3 (fy N) (fm N) (fd N) t1 t2 t3 c) ∈ nw3 ∧ N = kdue k n ev) ∧ ∀ p ∈ nw, p ∈ nw3)) ?_ ?_
          · repeat' (first | (k_unfold; (try dsimp only)) | walk1 | (dsimp only; walk1) | (leave1; walk_say "STEP leave1"; try dsimp only) | fail "no step")
            all_goals first
              | exact trivial
              | ((rename PyProof.Rows.Fr _ _ _ _ => jF9); (rename PyProof.Rows.News _ _ _ _ => jN9); refine ⟨_, _, _, _, rfl, jF9, jN9, ⟨_, gY2⟩, gE2, ⟨_, gK2⟩, ⟨_, _, _, _, _, _, rfl, .head _, ?_⟩, ?_⟩)
            all_goals first
              | (intro p hp; repeat (first | exact sub2 p hp | apply List.mem_cons_of_mem))
              | exact kdue_a (by with_reducible assumption) (by with_reducible assumption) (by with_reducible assumption)
              | exact kdue_b (by with_reducible assumption) (by with_reducible assumption) (by with_reducible assumption)
              | exact kdue_c (by with_reducible assumption) (by with_reducible assumption) (by with_reducible assumption)
              | exact kdue_d (by with_reducible assumption) (by with_reducible assumption) (by with_reducible assumption)
              | exact kdue_e (by with_reducible assumption) (by with_reducible assumption)
              | exact kdue_f (by with_reducible assumption) (by with_reducible assumption)
          · intro s3 hP
            obtain ⟨h3, tk3, m3, nw3, hs3, F3, N3, ⟨tY3, gY3⟩, gE3, ⟨tK3, gK3⟩, ⟨D3, n3, t31, t32, t33, c3, gD3, hD3, eN⟩, sub3⟩ := hP
            subst hs3
            subst eN
            clear gY2 gE2 gK2 gM2 gD2 sub2 hF N2 F2
            have hTup3 : IsTup h3 D3 #[.int _ t31, .int _ t32, .int _ t33] := ⟨_, (N3 _ hD3).1, rfl, _, rfl⟩
            repeat' (first | (k_unfold; (try dsimp only)) | walk1 | (dsimp only; walk1) | (leave1; walk_say "STEP leave1"; try dsimp only) | fail "no step")
            (rename PyProof.Rows.Fr _ _ _ _ => jF9)
            (rename PyProof.Rows.News _ _ _ _ => jN9)
            exact hret _ _ _ jF9 (fun p hp => jN9 p (by have h9 := sub3 p hp; repeat (first | with_reducible exact h9 | apply List.mem_cons_of_mem))) ⟨⟨_, gY3⟩, gE3⟩
        · repeat' (first | (k_unfold; (try dsimp only)) | walk1 | (dsimp only; walk1) | (leave1; walk_say "STEP leave1"; try dsimp only) | fail "no step")
          (rename PyProof.Rows.Fr _ _ _ _ => jF9)
          (rename PyProof.Rows.News _ _ _ _ => jN9)
          exact hret _ _ _ jF9 (fun p hp => jN9 p (by have h9 := sub2 p hp; repeat (first | with_reducible exact h9 | apply List.mem_cons_of_mem))) ⟨⟨_, gY2⟩, gE2⟩
    · intro h3 tk3 m3 F3 N3 g3
      k_steps))
end JB
end
theorem PySem.Challenge.cw_jb0013_01_holds : PySem.Challenge.rw_jb0013_01.Holds :=
  JB.look
