import PyProof.Rows.All
import Wide.All
import OpenK.AllK
import Wide.FinOn
import Lean
import PySem.Challenge.RW_ik0038_01
open PySem PySem.W PyProof.Rows
set_option Elab.async false
set_option maxRecDepth 100000
set_option maxHeartbeats 0
set_option linter.all false
set_option compiler.extract_closed false

namespace Mine
/-- the view: the law's own def alone -/
noncomputable def Qv : Program := { PySem.Challenge.pw_ik0038_01 with main := { PySem.Challenge.pw_ik0038_01.main with body := PySem.Challenge.pw_ik0038_01.main.body.drop 50 } }
noncomputable def LQ : List Str := [Str.ofString "_sre", Str.ofString "_wall", Str.ofString "sep", Str.ofString "_kind", Str.ofString "_c_path", Str.ofString "_shelf_fresh", Str.ofString "_splitroot", Str.ofString "_normpath", Str.ofString "normpath", Str.ofString "_Ignore", Str.ofString "_twin_re_1", Str.ofString "_special_chars_map", Str.ofString "escape", Str.ofString "_translate", Str.ofString "S_IFMT", Str.ofString "S_IFDIR", Str.ofString "S_IFCHR", Str.ofString "S_IFBLK", Str.ofString "S_IFREG", Str.ofString "S_IFIFO", Str.ofString "S_IFLNK", Str.ofString "S_IFSOCK", Str.ofString "S_ISREG", Str.ofString "S_ISUID", Str.ofString "S_ISGID", Str.ofString "S_ISVTX", Str.ofString "S_IRUSR", Str.ofString "S_IWUSR", Str.ofString "S_IXUSR", Str.ofString "S_IRGRP", Str.ofString "S_IWGRP", Str.ofString "S_IXGRP", Str.ofString "S_IROTH", Str.ofString "S_IWOTH", Str.ofString "S_IXOTH", Str.ofString "_filemode_table", Str.ofString "filemode", Str.ofString "_law_known", Str.ofString "_law_calls", Str.ofString "_law_plain", Str.ofString "_law_escaped", Str.ofString "_law_sieves", Str.ofString "_law_takes", Str.ofString "_law_patterned"]
theorem hd_said : PySem.Challenge.rw_ik0038_01.wellSaid = true := by
  rw [PySem.W.Fast.te9446332074065402090]
  kernel_rfl
noncomputable def runQ (p : Program) (w : World) : Option Shared :=
  ((PySem.W.Fast.tw10274390034422433532 PySem.W.Fast.tw14364793385576792824 (opening p) w 5338 (PySem.W.Fast.tw1435165496053646825 (opening p)).1 (PySem.W.Fast.tw1435165496053646825 (opening p)).2).bind (PySem.W.Fast.tw14289696077712309145 p)).bind fun s₀ => match s₀.heap.isNs mainGlobals && s₀.gens.size == 0 with
  | true => (PySem.W.Fast.tw14082659384304107361 PySem.W.Fast.tw14364793385576792824 p w s₀.heap.objs.size (PySem.W.Fast.tw8920871248978507458 s₀.heap mainGlobals (Str.ofString "__annotations__")) 5338 s₀ (topStub p)).bind fun s₁ => match staticsOk (PySem.W.Fast.tw5923862056798008813 p.main.body) s₀.heap s₁.heap && namesBound p s₁.heap && gensDone s₁ && laidKept s₀.heap s₁.heap with
      | true => some s₁
      | false => none
  | false => none
theorem runQ_eq (p : Program) (w : World) : openEnds treeTable p w 5338 = runQ p w := by
  unfold openEnds fencedOpening topFrom runQ
  rw [PySem.W.Fast.te10274390034422433532, PySem.W.Fast.te14364793385576792824, PySem.W.Fast.te1435165496053646825, PySem.W.Fast.te14289696077712309145, PySem.W.Fast.te14082659384304107361, PySem.W.Fast.te8920871248978507458, PySem.W.Fast.te5923862056798008813]
  rfl

theorem left_of {p Qv : Program} {loose : List Str} {Xt : Shared → Bool} {α : Type} {Yf : Shared → α} {Ya : World → α} (ms : List Str) (hm : importedModules p.main.body = ms)
    (h00 : ∀ w : World, (runQ p ((w.withFollow "comprehension-iter-twice" false).withFollow "special-get-raises" false)).map (fun s => ((seen ((recsOf Qv).map (·.name)) (ownsOf Qv) [] { s with gens := #[] }, s.heap.bltView,
   s.heap.keysOk (looseW Qv loose) ((recsOf Qv).map (·.name)) ((litsOf Qv).map (·.1)) ((clssOf Qv (looseW Qv loose)).map (·.name)) && s.heap.accountedOkI ms && s.heap.isNs mainGlobals && s.heap.isNs builtinsNs && tablesOk Qv s.heap && Xt s && (s.gens.size == 0),
   tabsOk Qv s, pinSeenD Qv (drecsOf Qv) s, plainSeenE Qv (looseW Qv loose) s, plainSeenD Qv loose s, wideSeen Qv s, clsSeenW Qv loose s), Yf s)) = some ((expectedOf Qv, bltViewBooted, true, true, pinGoodD (drecsOf Qv), plainGoodE Qv (looseW Qv loose), plainGoodD Qv loose, wideGood Qv, clsGoodW Qv loose), Ya ((w.withFollow "comprehension-iter-twice" false).withFollow "special-get-raises" false)))
    (h01 : ∀ w : World, (runQ p ((w.withFollow "comprehension-iter-twice" true).withFollow "special-get-raises" false)).map (fun s => ((seen ((recsOf Qv).map (·.name)) (ownsOf Qv) [] { s with gens := #[] }, s.heap.bltView,
   s.heap.keysOk (looseW Qv loose) ((recsOf Qv).map (·.name)) ((litsOf Qv).map (·.1)) ((clssOf Qv (looseW Qv loose)).map (·.name)) && s.heap.accountedOkI ms && s.heap.isNs mainGlobals && s.heap.isNs builtinsNs && tablesOk Qv s.heap && Xt s && (s.gens.size == 0),
   tabsOk Qv s, pinSeenD Qv (drecsOf Qv) s, plainSeenE Qv (looseW Qv loose) s, plainSeenD Qv loose s, wideSeen Qv s, clsSeenW Qv loose s), Yf s)) = some ((expectedOf Qv, bltViewBooted, true, true, pinGoodD (drecsOf Qv), plainGoodE Qv (looseW Qv loose), plainGoodD Qv loose, wideGood Qv, clsGoodW Qv loose), Ya ((w.withFollow "comprehension-iter-twice" true).withFollow "special-get-raises" false)))
    (h10 : ∀ w : World, (runQ p ((w.withFollow "comprehension-iter-twice" false).withFollow "special-get-raises" true)).map (fun s => ((seen ((recsOf Qv).map (·.name)) (ownsOf Qv) [] { s with gens := #[] }, s.heap.bltView,
   s.heap.keysOk (looseW Qv loose) ((recsOf Qv).map (·.name)) ((litsOf Qv).map (·.1)) ((clssOf Qv (looseW Qv loose)).map (·.name)) && s.heap.accountedOkI ms && s.heap.isNs mainGlobals && s.heap.isNs builtinsNs && tablesOk Qv s.heap && Xt s && (s.gens.size == 0),
   tabsOk Qv s, pinSeenD Qv (drecsOf Qv) s, plainSeenE Qv (looseW Qv loose) s, plainSeenD Qv loose s, wideSeen Qv s, clsSeenW Qv loose s), Yf s)) = some ((expectedOf Qv, bltViewBooted, true, true, pinGoodD (drecsOf Qv), plainGoodE Qv (looseW Qv loose), plainGoodD Qv loose, wideGood Qv, clsGoodW Qv loose), Ya ((w.withFollow "comprehension-iter-twice" false).withFollow "special-get-raises" true)))
    (h11 : ∀ w : World, (runQ p ((w.withFollow "comprehension-iter-twice" true).withFollow "special-get-raises" true)).map (fun s => ((seen ((recsOf Qv).map (·.name)) (ownsOf Qv) [] { s with gens := #[] }, s.heap.bltView,
   s.heap.keysOk (looseW Qv loose) ((recsOf Qv).map (·.name)) ((litsOf Qv).map (·.1)) ((clssOf Qv (looseW Qv loose)).map (·.name)) && s.heap.accountedOkI ms && s.heap.isNs mainGlobals && s.heap.isNs builtinsNs && tablesOk Qv s.heap && Xt s && (s.gens.size == 0),
   tabsOk Qv s, pinSeenD Qv (drecsOf Qv) s, plainSeenE Qv (looseW Qv loose) s, plainSeenD Qv loose s, wideSeen Qv s, clsSeenW Qv loose s), Yf s)) = some ((expectedOf Qv, bltViewBooted, true, true, pinGoodD (drecsOf Qv), plainGoodE Qv (looseW Qv loose), plainGoodD Qv loose, wideGood Qv, clsGoodW Qv loose), Ya ((w.withFollow "comprehension-iter-twice" true).withFollow "special-get-raises" true))) : LeftO p Qv loose Xt Yf Ya 5338 := by
  have key : ∀ w : World, (runQ p w).map (fun s => ((seen ((recsOf Qv).map (·.name)) (ownsOf Qv) [] { s with gens := #[] }, s.heap.bltView,
   s.heap.keysOk (looseW Qv loose) ((recsOf Qv).map (·.name)) ((litsOf Qv).map (·.1)) ((clssOf Qv (looseW Qv loose)).map (·.name)) && s.heap.accountedOkI ms && s.heap.isNs mainGlobals && s.heap.isNs builtinsNs && tablesOk Qv s.heap && Xt s && (s.gens.size == 0),
   tabsOk Qv s, pinSeenD Qv (drecsOf Qv) s, plainSeenE Qv (looseW Qv loose) s, plainSeenD Qv loose s, wideSeen Qv s, clsSeenW Qv loose s), Yf s)) = some ((expectedOf Qv, bltViewBooted, true, true, pinGoodD (drecsOf Qv), plainGoodE Qv (looseW Qv loose), plainGoodD Qv loose, wideGood Qv, clsGoodW Qv loose), Ya w) :=
    byRow2 "special-get-raises" (P := fun w => (runQ p w).map (fun s => ((seen ((recsOf Qv).map (·.name)) (ownsOf Qv) [] { s with gens := #[] }, s.heap.bltView,
   s.heap.keysOk (looseW Qv loose) ((recsOf Qv).map (·.name)) ((litsOf Qv).map (·.1)) ((clssOf Qv (looseW Qv loose)).map (·.name)) && s.heap.accountedOkI ms && s.heap.isNs mainGlobals && s.heap.isNs builtinsNs && tablesOk Qv s.heap && Xt s && (s.gens.size == 0),
   tabsOk Qv s, pinSeenD Qv (drecsOf Qv) s, plainSeenE Qv (looseW Qv loose) s, plainSeenD Qv loose s, wideSeen Qv s, clsSeenW Qv loose s), Yf s)) = some ((expectedOf Qv, bltViewBooted, true, true, pinGoodD (drecsOf Qv), plainGoodE Qv (looseW Qv loose), plainGoodD Qv loose, wideGood Qv, clsGoodW Qv loose), Ya w))
      (byRow2 "comprehension-iter-twice" (P := fun w => (runQ p (w.withFollow "special-get-raises" false)).map (fun s => ((seen ((recsOf Qv).map (·.name)) (ownsOf Qv) [] { s with gens := #[] }, s.heap.bltView,
   s.heap.keysOk (looseW Qv loose) ((recsOf Qv).map (·.name)) ((litsOf Qv).map (·.1)) ((clssOf Qv (looseW Qv loose)).map (·.name)) && s.heap.accountedOkI ms && s.heap.isNs mainGlobals && s.heap.isNs builtinsNs && tablesOk Qv s.heap && Xt s && (s.gens.size == 0),
   tabsOk Qv s, pinSeenD Qv (drecsOf Qv) s, plainSeenE Qv (looseW Qv loose) s, plainSeenD Qv loose s, wideSeen Qv s, clsSeenW Qv loose s), Yf s)) = some ((expectedOf Qv, bltViewBooted, true, true, pinGoodD (drecsOf Qv), plainGoodE Qv (looseW Qv loose), plainGoodD Qv loose, wideGood Qv, clsGoodW Qv loose), Ya (w.withFollow "special-get-raises" false))) h00 h01)
      (byRow2 "comprehension-iter-twice" (P := fun w => (runQ p (w.withFollow "special-get-raises" true)).map (fun s => ((seen ((recsOf Qv).map (·.name)) (ownsOf Qv) [] { s with gens := #[] }, s.heap.bltView,
   s.heap.keysOk (looseW Qv loose) ((recsOf Qv).map (·.name)) ((litsOf Qv).map (·.1)) ((clssOf Qv (looseW Qv loose)).map (·.name)) && s.heap.accountedOkI ms && s.heap.isNs mainGlobals && s.heap.isNs builtinsNs && tablesOk Qv s.heap && Xt s && (s.gens.size == 0),
   tabsOk Qv s, pinSeenD Qv (drecsOf Qv) s, plainSeenE Qv (looseW Qv loose) s, plainSeenD Qv loose s, wideSeen Qv s, clsSeenW Qv loose s), Yf s)) = some ((expectedOf Qv, bltViewBooted, true, true, pinGoodD (drecsOf Qv), plainGoodE Qv (looseW Qv loose), plainGoodD Qv loose, wideGood Qv, clsGoodW Qv loose), Ya (w.withFollow "special-get-raises" true))) h10 h11)
  intro w
  rw [runQ_eq, hm]
  exact key w

theorem holds_both {r : OpenRow} {Qv : Program} {loose : List Str} {Xt : Shared → Bool} {XP : (Str → Option Value) → Heap → Prop} {α : Type} {Yf : Shared → α} {Ya : World → α} {YP : World → Heap → Prop} {d : DefRec} {kwd : List (Str × Expr)} {N : Nat}
    (hY : ∀ w s, Yf s = Ya w → YP w s.heap) (hYk : ∀ w h h', YP w h → (∀ b o, h.get? b = some o → h'.get? b = some o) → YP w h')
    (hX : ∀ s, Xt s = true → XP (s.heap.nsMap mainGlobals) s.heap) (hXk : ∀ mg h h', XP mg h → (∀ b o, h.get? b = some o → h'.get? b = some o) → XP mg h')
    (hdef : defOf Qv r.name = some (d, kwd)) (hp : r.prog.theDef r.name = some (d.params, d.body, d.scope)) (hk : kwWritten? d.params.kwonlyargs d.params.kw_defaults = some kwd) (hRf : ∀ s, Xt s = true → RecFacts r.records s.heap) (hwr : (!r.writes || r.records.isEmpty) = true)
    (k1 : r.wellSaid = true) (ok : (chainsOk Qv && opensWell r.prog && (frees r.toRowW && r.within.isEmpty)) = true) (hb : r.prog.bare) (hw : r.toRowW.promised)
    (hc : LeftO r.prog Qv loose Xt Yf Ya N ∧ WalkO Qv loose XP YP r.toRowW d kwd fun f vs => PySem.call f vs) : r.Holds :=
  holds_open hc.1 hY hYk hX hXk hdef hp hk hRf hwr k1 ok hb hw hc.2
noncomputable def Xq : Shared → Bool := fun s => xlAt Qv [] s && recOk (RowW.records PySem.Challenge.rw_ik0038_01.row.toRowW) s
local macro_rules | `(tactic| o_law) => `(tactic| refine holds_law hd_said fun said => ?_)
local macro_rules | `(tactic| o_head $H) => `(tactic| (refine holds_both (Qv := Qv) (loose := LQ) (Xt := Xq) (XP := XL Qv []) (Yf := Hook.obs $H) (Ya := Hook.val $H) (YP := Hook.says $H) (N := 5338) (Hook.of $H) (Hook.keeps $H) (fun s e => xl_of s (Bool.and_eq_true_iff.mp e).1) XL.keeps (by rfl) (by rfl) (by rfl) (fun s e => recFacts_of (Bool.and_eq_true_iff.mp e).2) (by rfl) (by first | assumption | decide +kernel) (by decide +kernel) ⟨rfl, rfl, rfl, rfl, rfl, by decide +kernel⟩ ?hw ?hc))
open_top hd for PySem.Challenge.rw_ik0038_01

end Mine

namespace Mine
noncomputable def asL : List Addr := [2, 3, 32, 34, 35, 37, 38, 39, 41, 42, 44, 45, 46, 48, 49, 51, 52, 53, 55, 56, 58, 59, 60, 62, 63, 65, 66, 67, 69, 70, 72, 73, 74, 76, 77, 79, 80, 88, 89, 92, 93, 94, 96, 97, 99, 100, 101, 102, 103, 104, 105, 111, 112, 114, 118, 120, 121, 123, 124, 125, 127, 128, 130, 131, 132, 134, 135, 137, 138, 139, 141, 142, 144, 145, 146, 147, 148, 149, 150, 151, 152, 153, 154, 155, 156, 157, 158, 159, 160, 161, 162, 163, 164, 165, 166, 167, 168, 169, 170, 171, 172, 173, 174, 175, 176, 177, 178, 179, 181, 182, 184, 185, 186, 189, 190, 191, 193, 194, 196, 197, 198, 200, 201, 203, 204, 205, 208, 209, 210, 213, 214, 215, 218, 219, 220, 223, 224, 225, 227, 228, 230, 231]
theorem left0 (w : World) : (runQ PySem.Challenge.rw_ik0038_01.row.prog ((w.withFollow "comprehension-iter-twice" false).withFollow "special-get-raises" false)).map (fun s => ((seen ((recsOf Qv).map (·.name)) (ownsOf Qv) [] { s with gens := #[] }, s.heap.bltView,
   s.heap.keysOk (looseW Qv LQ) ((recsOf Qv).map (·.name)) ((litsOf Qv).map (·.1)) ((clssOf Qv (looseW Qv LQ)).map (·.name)) && s.heap.accountedOkI [Str.ofString "_sre"] && s.heap.isNs mainGlobals && s.heap.isNs builtinsNs && tablesOk Qv s.heap && Xq s && (s.gens.size == 0),
   tabsOk Qv s, pinSeenD Qv (drecsOf Qv) s, plainSeenE Qv (looseW Qv LQ) s, plainSeenD Qv LQ s, wideSeen Qv s, clsSeenW Qv LQ s), (asL.map s.heap.get?, [126].map s.heap.get?))) = some ((expectedOf Qv, bltViewBooted, true, true, pinGoodD (drecsOf Qv), plainGoodE Qv (looseW Qv LQ), plainGoodD Qv LQ, wideGood Qv, clsGoodW Qv LQ), ((hd.heap_1 ((w.withFollow "comprehension-iter-twice" false).withFollow "special-get-raises" false).params).map fun p => some p.2, [126].map fun _ => some (tabObj #[]))) := by kernel_rfl
theorem left1 (w : World) : (runQ PySem.Challenge.rw_ik0038_01.row.prog ((w.withFollow "comprehension-iter-twice" true).withFollow "special-get-raises" false)).map (fun s => ((seen ((recsOf Qv).map (·.name)) (ownsOf Qv) [] { s with gens := #[] }, s.heap.bltView,
   s.heap.keysOk (looseW Qv LQ) ((recsOf Qv).map (·.name)) ((litsOf Qv).map (·.1)) ((clssOf Qv (looseW Qv LQ)).map (·.name)) && s.heap.accountedOkI [Str.ofString "_sre"] && s.heap.isNs mainGlobals && s.heap.isNs builtinsNs && tablesOk Qv s.heap && Xq s && (s.gens.size == 0),
   tabsOk Qv s, pinSeenD Qv (drecsOf Qv) s, plainSeenE Qv (looseW Qv LQ) s, plainSeenD Qv LQ s, wideSeen Qv s, clsSeenW Qv LQ s), (asL.map s.heap.get?, [126].map s.heap.get?))) = some ((expectedOf Qv, bltViewBooted, true, true, pinGoodD (drecsOf Qv), plainGoodE Qv (looseW Qv LQ), plainGoodD Qv LQ, wideGood Qv, clsGoodW Qv LQ), ((hd.heap_1 ((w.withFollow "comprehension-iter-twice" true).withFollow "special-get-raises" false).params).map fun p => some p.2, [126].map fun _ => some (tabObj #[]))) := by kernel_rfl
theorem left2 (w : World) : (runQ PySem.Challenge.rw_ik0038_01.row.prog ((w.withFollow "comprehension-iter-twice" false).withFollow "special-get-raises" true)).map (fun s => ((seen ((recsOf Qv).map (·.name)) (ownsOf Qv) [] { s with gens := #[] }, s.heap.bltView,
   s.heap.keysOk (looseW Qv LQ) ((recsOf Qv).map (·.name)) ((litsOf Qv).map (·.1)) ((clssOf Qv (looseW Qv LQ)).map (·.name)) && s.heap.accountedOkI [Str.ofString "_sre"] && s.heap.isNs mainGlobals && s.heap.isNs builtinsNs && tablesOk Qv s.heap && Xq s && (s.gens.size == 0),
   tabsOk Qv s, pinSeenD Qv (drecsOf Qv) s, plainSeenE Qv (looseW Qv LQ) s, plainSeenD Qv LQ s, wideSeen Qv s, clsSeenW Qv LQ s), (asL.map s.heap.get?, [126].map s.heap.get?))) = some ((expectedOf Qv, bltViewBooted, true, true, pinGoodD (drecsOf Qv), plainGoodE Qv (looseW Qv LQ), plainGoodD Qv LQ, wideGood Qv, clsGoodW Qv LQ), ((hd.heap_1 ((w.withFollow "comprehension-iter-twice" false).withFollow "special-get-raises" true).params).map fun p => some p.2, [126].map fun _ => some (tabObj #[]))) := by kernel_rfl
theorem left3 (w : World) : (runQ PySem.Challenge.rw_ik0038_01.row.prog ((w.withFollow "comprehension-iter-twice" true).withFollow "special-get-raises" true)).map (fun s => ((seen ((recsOf Qv).map (·.name)) (ownsOf Qv) [] { s with gens := #[] }, s.heap.bltView,
   s.heap.keysOk (looseW Qv LQ) ((recsOf Qv).map (·.name)) ((litsOf Qv).map (·.1)) ((clssOf Qv (looseW Qv LQ)).map (·.name)) && s.heap.accountedOkI [Str.ofString "_sre"] && s.heap.isNs mainGlobals && s.heap.isNs builtinsNs && tablesOk Qv s.heap && Xq s && (s.gens.size == 0),
   tabsOk Qv s, pinSeenD Qv (drecsOf Qv) s, plainSeenE Qv (looseW Qv LQ) s, plainSeenD Qv LQ s, wideSeen Qv s, clsSeenW Qv LQ s), (asL.map s.heap.get?, [126].map s.heap.get?))) = some ((expectedOf Qv, bltViewBooted, true, true, pinGoodD (drecsOf Qv), plainGoodE Qv (looseW Qv LQ), plainGoodD Qv LQ, wideGood Qv, clsGoodW Qv LQ), ((hd.heap_1 ((w.withFollow "comprehension-iter-twice" true).withFollow "special-get-raises" true).params).map fun p => some p.2, [126].map fun _ => some (tabObj #[]))) := by kernel_rfl
theorem left : LeftO PySem.Challenge.rw_ik0038_01.row.prog Qv LQ Xq (kmHook hd.heap_1 asL (fun _ => by kernel_rfl) [126]).obs (kmHook hd.heap_1 asL (fun _ => by kernel_rfl) [126]).val 5338 :=
  left_of [Str.ofString "_sre"] (by kernel_rfl) left0 left1 left2 left3

end Mine

open PySem.Calls PySem.Spec
set_option maxHeartbeats 4000000
namespace Mine
section
noncomputable abbrev P : Program := PySem.Challenge.rw_ik0038_01.prog
/-- the names that the top level leaves open -/
noncomputable abbrev TL : List Str := looseW Qv LQ ++ (recsOf Qv).map (·.name) ++ (litsOf Qv).map (·.1) ++ (clssOf Qv (looseW Qv LQ)).map (·.name)
noncomputable abbrev lst (vs : List Value) (n : Nat) : Obj := { cls := .type "list", data := .seq vs.toArray n }
noncomputable abbrev Small (x : Str) : Prop := x.length ≤ 64
/-- a contract of the def at f: called by args where the ledger is news, it hands back v with the ledger news' -/
noncomputable def Con (b : Nat) (w : World) (f : Addr) (args : List Value) (news : List (Addr × Obj)) (Post : Value → List (Addr × Obj) → Prop) : Prop :=
  ∀ (dp un : Nat), dp ≤ b → un ≤ b → ∀ (gd : Option (List Code)) (cn : Str) (cs : Scope) (a : Addr) (ccd : Value) (cl : List (Str × Addr)) (outer : List Env) (A₀ : Around) (base h₀ : Heap) (L : Addr) (m : Str → Option Value) (s : Shared) (Q E : Value → Shared → Prop)
  (mean : ExcName → Option Value) (mg mb : Str → Option Value),
  Below A₀ base outer h₀ → Fr h₀ L s.heap m → (hd.heap_1 w.params).In h₀ → News h₀ L s.heap news → Top topProg TL mean mg mb h₀ → cs.kind = .function →
  (∀ v news' h' tk', Post v news' → Fr h₀ L h' m → News h₀ L h' news' → Q v { s with heap := h', toks := tk' }) →
  wpAny (model P w) (ktrTop dp un gd cn cs L a ccd cl outer) (call (.ref f) args) Q E s
theorem Con.use {b : Nat} {w : World} {f : Addr} {args : List Value} {news : List (Addr × Obj)} {Post : Value → List (Addr × Obj) → Prop} (C : Con b w f args news Post)
  {A : Around} {dp un : Nat} {gd : Option (List Code)} {cn : Str} {cs : Scope} {a : Addr} {ccd : Value} {cl : List (Str × Addr)} {outer : List Env} {A₀ : Around} {base h₀ : Heap} {L : Addr} {m : Str → Option Value} {s : Shared} {Q E : Value → Shared → Prop}
  {mean : ExcName → Option Value} {mg mb : Str → Option Value} (F : Fr h₀ L s.heap m) (N : News h₀ L s.heap news) (eA : A = ktrTop dp un gd cn cs L a ccd cl outer) (hdp : dp ≤ b) (hun : un ≤ b)
  (B : Below A₀ base outer h₀) (X : (hd.heap_1 w.params).In h₀) (T : Top topProg TL mean mg mb h₀) (hk : cs.kind = .function)
  (hQ : ∀ v news' h' tk', Post v news' → Fr h₀ L h' m → News h₀ L h' news' → Q v { s with heap := h', toks := tk' }) : wpAny (model P w) A (call (.ref f) args) Q E s := by
  subst eA
  exact C dp un hdp hun gd cn cs a ccd cl outer A₀ base h₀ L m s Q E mean mg mb B F X N T hk hQ
/-- the same, with the counter of tokens in sight -/
noncomputable def ConT (b : Nat) (w : World) (f : Addr) (args : List Value) (news : List (Addr × Obj)) (Pre : Nat → Prop) (Post : Nat → Nat → Value → List (Addr × Obj) → Prop) : Prop :=
  ∀ (dp un : Nat), dp ≤ b → un ≤ b → ∀ (gd : Option (List Code)) (cn : Str) (cs : Scope) (a : Addr) (ccd : Value) (cl : List (Str × Addr)) (outer : List Env) (A₀ : Around) (base h₀ : Heap) (L : Addr) (m : Str → Option Value) (s : Shared) (Q E : Value → Shared → Prop)
  (mean : ExcName → Option Value) (mg mb : Str → Option Value),
  Below A₀ base outer h₀ → Fr h₀ L s.heap m → (hd.heap_1 w.params).In h₀ → News h₀ L s.heap news → Top topProg TL mean mg mb h₀ → cs.kind = .function → Pre s.toks →
  (∀ v news' h' tk', Post s.toks tk' v news' → Fr h₀ L h' m → News h₀ L h' news' → Q v { s with heap := h', toks := tk' }) →
  wpAny (model P w) (ktrTop dp un gd cn cs L a ccd cl outer) (call (.ref f) args) Q E s
theorem ConT.use {b : Nat} {w : World} {f : Addr} {args : List Value} {news : List (Addr × Obj)} {Pre : Nat → Prop} {Post : Nat → Nat → Value → List (Addr × Obj) → Prop} (C : ConT b w f args news Pre Post)
  {A : Around} {dp un : Nat} {gd : Option (List Code)} {cn : Str} {cs : Scope} {a : Addr} {ccd : Value} {cl : List (Str × Addr)} {outer : List Env} {A₀ : Around} {base h₀ : Heap} {L : Addr} {m : Str → Option Value} {s : Shared} {Q E : Value → Shared → Prop}
  {mean : ExcName → Option Value} {mg mb : Str → Option Value} (F : Fr h₀ L s.heap m) (N : News h₀ L s.heap news) (eA : A = ktrTop dp un gd cn cs L a ccd cl outer) (hdp : dp ≤ b) (hun : un ≤ b)
  (B : Below A₀ base outer h₀) (X : (hd.heap_1 w.params).In h₀) (T : Top topProg TL mean mg mb h₀) (hk : cs.kind = .function) (hPre : Pre s.toks)
  (hQ : ∀ v news' h' tk', Post s.toks tk' v news' → Fr h₀ L h' m → News h₀ L h' news' → Q v { s with heap := h', toks := tk' }) : wpAny (model P w) A (call (.ref f) args) Q E s := by
  subst eA
  exact C dp un hdp hun gd cn cs a ccd cl outer A₀ base h₀ L m s Q E mean mg mb B F X N T hk hPre hQ
end
local macro_rules | `(tactic| walk_at $s:str) => `(tactic| k_extra $s)
local macro_rules | `(tactic| k_room) => `(tactic| k_extra "k_room")
local macro_rules | `(tactic| k_all) => `(tactic| k_extra "k_all")
local macro_rules | `(tactic| k_mem) => `(tactic| k_extra "k_mem")
local macro_rules | `(tactic| x_close) => `(tactic| k_extra "x_close")
example : (∀ (w : World) (h : Heap), (hd.heap_1 w.params).In h → True) ∧ PySem.Challenge.rw_ik0038_01 = PySem.Challenge.rw_ik0038_01 := by
  k_fill
  exact ⟨fun _ _ _ => trivial, rfl⟩
section
/-- a constant that breaks the law if anything breaks it: a proof about it alone is a proof for all, and its terms are closed -/
noncomputable def eps {α : Type _} (d : α) (P : α → Prop) : α := @Classical.epsilon α ⟨d⟩ P
theorem eps_all {α : Type _} {P : α → Prop} (d : α) (h : P (eps d fun x => ¬ P x)) (x : α) : P x :=
  Classical.byContradiction fun hn => (@Classical.epsilon_spec_aux α ⟨d⟩ (fun x => ¬ P x) ⟨x, hn⟩) h
theorem eps_allz {α : Type _} {P : α → Prop} {d z : α} (hz : z = eps d fun x => ¬ P x) (h : P z) (x : α) : P x := eps_all d (hz ▸ h) x
theorem eps_all3 {α β γ : Type} {P : α → β → γ → Prop} {d z : α × β × γ} (hz : z = eps d fun x => ¬ P x.1 x.2.1 x.2.2) {a : α} {b : β} {c : γ} (ha : a = z.1) (hb : b = z.2.1) (hc : c = z.2.2) (h : P a b c) (x : α) (y : β) (w : γ) : P x y w := by
  subst ha hb hc
  exact eps_allz (P := fun x => P x.1 x.2.1 x.2.2) hz h (x, y, w)
/-- the data that a contract is for -/
structure CD where
  dp : Nat
  un : Nat
  gd : Option (List Code)
  cn : Str
  cnm : List (Str × NameKind)
  cg : Bool
  cc : Bool
  cm : List (Str × Const)
  a : Addr
  ccd : Value
  cl : List (Str × Addr)
  outer : List Env
  A₀ : Around
  base : Heap
  h₀ : Heap
  L : Addr
  m : Str → Option Value
  s : Shared
  Q : Value → Shared → Prop
  E : Value → Shared → Prop
  mean : ExcName → Option Value
  mg : Str → Option Value
  mb : Str → Option Value
noncomputable def CD.d : CD := ⟨0, 0, none, Str.ofString "", [], false, false, [], 0, .none, [], [], ⟨none, 0, none, none, 1⟩, {}, {}, 0, fun _ => none, ⟨{}, #[], {}, 1, {}⟩, fun _ _ => True, fun _ _ => True, fun _ => none, fun _ => none, fun _ => none⟩
noncomputable def wd : World := aWorld 0
noncomputable def CD.Ok (c : CD) (b : Nat) (w : World) (f : Addr) (args : List Value) (news : List (Addr × Obj)) (Post : Value → List (Addr × Obj) → Prop) : Prop :=
  c.dp ≤ b → c.un ≤ b → Below c.A₀ c.base c.outer c.h₀ → Fr c.h₀ c.L c.s.heap c.m → (hd.heap_1 w.params).In c.h₀ → News c.h₀ c.L c.s.heap news → Top topProg TL c.mean c.mg c.mb c.h₀ →
  (∀ v news' h' tk', Post v news' → Fr c.h₀ c.L h' c.m → News c.h₀ c.L h' news' → c.Q v { c.s with heap := h', toks := tk' }) →
  wpAny (model P w) (ktrTop c.dp c.un c.gd c.cn ⟨.function, c.cnm, c.cg, c.cc, c.cm⟩ c.L c.a c.ccd c.cl c.outer) (call (.ref f) args) c.Q c.E c.s
noncomputable def CD.OkT (c : CD) (b : Nat) (w : World) (f : Addr) (args : List Value) (news : List (Addr × Obj)) (Pre : Nat → Prop) (Post : Nat → Nat → Value → List (Addr × Obj) → Prop) : Prop :=
  c.dp ≤ b → c.un ≤ b → Below c.A₀ c.base c.outer c.h₀ → Fr c.h₀ c.L c.s.heap c.m → (hd.heap_1 w.params).In c.h₀ → News c.h₀ c.L c.s.heap news → Top topProg TL c.mean c.mg c.mb c.h₀ → Pre c.s.toks →
  (∀ v news' h' tk', Post c.s.toks tk' v news' → Fr c.h₀ c.L h' c.m → News c.h₀ c.L h' news' → c.Q v { c.s with heap := h', toks := tk' }) →
  wpAny (model P w) (ktrTop c.dp c.un c.gd c.cn ⟨.function, c.cnm, c.cg, c.cc, c.cm⟩ c.L c.a c.ccd c.cl c.outer) (call (.ref f) args) c.Q c.E c.s
theorem con_of {b : Nat} {w : World} {f : Addr} {args : List Value} {news : List (Addr × Obj)} {Post : Value → List (Addr × Obj) → Prop} (h : ∀ c : CD, c.Ok b w f args news Post) : Con b w f args news Post := by
  intro dp un hdp hun gd cn cs a ccd cl outer A₀ base h₀ L m s Q E mean mg mb B F X N T hk hQ
  obtain ⟨ck, cnm, cg, cc, cm⟩ := cs
  dsimp only at hk
  subst hk
  exact h ⟨dp, un, gd, cn, cnm, cg, cc, cm, a, ccd, cl, outer, A₀, base, h₀, L, m, s, Q, E, mean, mg, mb⟩ hdp hun B F X N T hQ
theorem conT_of {b : Nat} {w : World} {f : Addr} {args : List Value} {news : List (Addr × Obj)} {Pre : Nat → Prop} {Post : Nat → Nat → Value → List (Addr × Obj) → Prop} (h : ∀ c : CD, c.OkT b w f args news Pre Post) : ConT b w f args news Pre Post := by
  intro dp un hdp hun gd cn cs a ccd cl outer A₀ base h₀ L m s Q E mean mg mb B F X N T hk hpre hQ
  obtain ⟨ck, cnm, cg, cc, cm⟩ := cs
  dsimp only at hk
  subst hk
  exact h ⟨dp, un, gd, cn, cnm, cg, cc, cm, a, ccd, cl, outer, A₀, base, h₀, L, m, s, Q, E, mean, mg, mb⟩ hdp hun B F X N T hpre hQ
end
section
section
section V
variable {prog : Program} {w : World} {A : Around} {E : Value → Shared → Prop} {s : Shared} {env : Env} {h₀ : Heap} {body : List Stmt} {Q : Flow → Shared → Prop}
/-- what is left of a for statement once its iterable's value stands -/
noncomputable def ForAt (prog : Program) (w : World) (A : Around) (env : Env) (target : Expr) (body orelse : List Stmt) (Q : Flow → Shared → Prop) (E : Value → Shared → Prop) (xv : Value) (s₁ : Shared) : Prop :=
  wpAny (model prog w) A (pyIter xv) (fun it s₂ => codeAny (model prog w) A (.forLoop target it body orelse env) (fun r s' => match r with | .ok f => Q f s' | .error e => cameBackBy (model prog w) A env E e s') s₂) E s₁
theorem for_at {target iter : Expr} {orelse : List Stmt} {pos : Pos} (h : wpAny (model prog w) A (eval iter env) (ForAt prog w A env target body orelse Q E) E s) (hs : ∀ x, foldedSetIterable iter env x = pure x := by intro _; rfl) :
    wpAny (model prog w) A (exec (.For target iter body orelse pos) env) Q E s := wpAny_For h hs
/-- the end of a turn: the iterator stands, the rest is said by J -/
noncomputable def TurnP (D : Drawn → Prop) (h₀ : Heap) (L : Addr) (J : (Str → Option Value) → List (Addr × Obj) → Prop) (I : Addr) (it : Obj) (s₁ : Shared) (Q : Flow → Shared → Prop) (f : Flow) (s₂ : Shared) : Prop :=
  match f with
  | .ret v => Q (.ret v) s₂
  | .brk => Q .next s₂
  | _ => ∃ h' tk d m' nw, s₂ = { s₁ with heap := h', toks := tk, drawn := d } ∧ D d ∧ Fr h₀ L h' m' ∧ News h₀ L h' ((I, it) :: nw) ∧ (∀ p ∈ nw, p.1 ≠ I) ∧ J m' nw
end V
namespace HforAt_listG
noncomputable def Pre (prog : Program) (w : World) (A : Around) (E : Value → Shared → Prop) (s : Shared) (env : Env) (h₀ : Heap) (body : List Stmt) (Q : Flow → Shared → Prop) (D : Drawn → Prop) (target : Expr) (ax : Addr) (lo : Obj) (vs : List Value) (n : Nat) (m₀ : Str → Option Value) (news : List (Addr × Obj)) (J : List Value → (Str → Option Value) → List (Addr × Obj) → Prop) : Prop :=
  (D s.drawn) → (A.handled = none) → (PassesOwn (model prog w) A env E) → (Fr h₀ env.locals s.heap m₀) → (News h₀ env.locals s.heap news) → (lo.cls = .type "list") → (lo.data = .seq vs.toArray n) → (∀ r m nw, J r m nw → (ax, lo) ∈ nw) → (J vs m₀ news) → (∀ v, letOwnedTupleGo target v = fun _ => pure ()) → (∀ v r m nw it I h tk d, J (v :: r) m nw → s.toks ≤ tk → D d → (∀ p ∈ nw, p.1 ≠ I) → it.cls = .type "list_iterator" → Fr h₀ env.locals h m → News h₀ env.locals h ((I, it) :: nw) →
      wpAny (model prog w) A (assign target env v) (fun _ s₂ => wpAny (model prog w) A (execs body env) (TurnP D h₀ env.locals (J r) I it { s with heap := h, toks := tk, drawn := d } Q) E s₂) E { s with heap := h, toks := tk, drawn := d }) → (∀ m nw h tk d, J [] m nw → s.toks ≤ tk → D d → Fr h₀ env.locals h m → News h₀ env.locals h nw → Q .next { s with heap := h, toks := tk, drawn := d }) → ForAt prog w A env target body [] Q E (.ref ax) s
noncomputable abbrev Dat : Type := Program × World × Around × (Value → Shared → Prop) × Shared × Env × Heap × (List Stmt) × (Flow → Shared → Prop) × (Drawn → Prop) × Expr × Addr × Obj × (List Value) × Nat × (Str → Option Value) × (List (Addr × Obj)) × (List Value → (Str → Option Value) → List (Addr × Obj) → Prop)
noncomputable def d₀ : Dat := (default, wd, ⟨none, 0, none, none, 1⟩, (fun _ _ => True), ⟨{}, #[], {}, 1, {}⟩, default, {}, [], (fun _ _ => True), (fun _ => True), default, (0 : Nat), default, [], 0, (fun _ => none), [], (fun _ _ _ => True))
@[irreducible] noncomputable def z₀ : Dat := eps d₀ fun z => ¬ Pre z.1 z.2.1 z.2.2.1 z.2.2.2.1 z.2.2.2.2.1 z.2.2.2.2.2.1 z.2.2.2.2.2.2.1 z.2.2.2.2.2.2.2.1 z.2.2.2.2.2.2.2.2.1 z.2.2.2.2.2.2.2.2.2.1 z.2.2.2.2.2.2.2.2.2.2.1 z.2.2.2.2.2.2.2.2.2.2.2.1 z.2.2.2.2.2.2.2.2.2.2.2.2.1 z.2.2.2.2.2.2.2.2.2.2.2.2.2.1 z.2.2.2.2.2.2.2.2.2.2.2.2.2.2.1 z.2.2.2.2.2.2.2.2.2.2.2.2.2.2.2.1 z.2.2.2.2.2.2.2.2.2.2.2.2.2.2.2.2.1 z.2.2.2.2.2.2.2.2.2.2.2.2.2.2.2.2.2
@[irreducible] noncomputable def prog : Program := z₀.1
@[irreducible] noncomputable def w : World := z₀.2.1
@[irreducible] noncomputable def A : Around := z₀.2.2.1
@[irreducible] noncomputable def E : Value → Shared → Prop := z₀.2.2.2.1
@[irreducible] noncomputable def s : Shared := z₀.2.2.2.2.1
@[irreducible] noncomputable def env : Env := z₀.2.2.2.2.2.1
@[irreducible] noncomputable def h₀ : Heap := z₀.2.2.2.2.2.2.1
@[irreducible] noncomputable def body : List Stmt := z₀.2.2.2.2.2.2.2.1
@[irreducible] noncomputable def Q : Flow → Shared → Prop := z₀.2.2.2.2.2.2.2.2.1
@[irreducible] noncomputable def D : Drawn → Prop := z₀.2.2.2.2.2.2.2.2.2.1
@[irreducible] noncomputable def target : Expr := z₀.2.2.2.2.2.2.2.2.2.2.1
@[irreducible] noncomputable def ax : Addr := z₀.2.2.2.2.2.2.2.2.2.2.2.1
@[irreducible] noncomputable def lo : Obj := z₀.2.2.2.2.2.2.2.2.2.2.2.2.1
@[irreducible] noncomputable def vs : List Value := z₀.2.2.2.2.2.2.2.2.2.2.2.2.2.1
@[irreducible] noncomputable def n : Nat := z₀.2.2.2.2.2.2.2.2.2.2.2.2.2.2.1
@[irreducible] noncomputable def m₀ : Str → Option Value := z₀.2.2.2.2.2.2.2.2.2.2.2.2.2.2.2.1
@[irreducible] noncomputable def news : List (Addr × Obj) := z₀.2.2.2.2.2.2.2.2.2.2.2.2.2.2.2.2.1
@[irreducible] noncomputable def J : List Value → (Str → Option Value) → List (Addr × Obj) → Prop := z₀.2.2.2.2.2.2.2.2.2.2.2.2.2.2.2.2.2
theorem main : Pre prog w A E s env h₀ body Q D target ax lo vs n m₀ news J := by
  intro hD hh hE F N hc hd hm h0 ht turn done
  have hax := N _ (hm _ _ _ h0)
  have hl : s.heap.IsList ax vs.toArray := ⟨lo, hax.1, hc, n, hd⟩
  refine wpAny_pyIter_list hl ?_
  have hlt : ax < s.heap.objs.size := Heap.lt_size hax.1
  have hne : ax ≠ s.heap.objs.size := Nat.ne_of_lt hlt
  have hIn := next_is_new F
  have hIL : env.locals ≠ s.heap.objs.size := Nat.ne_of_lt F.ns.lt
  have isl : ∀ {h : Heap} {r m nw}, J r m nw → News h₀ env.locals h nw → h.IsList ax vs.toArray := fun hj N' => ⟨lo, (N' _ (hm _ _ _ hj)).1, hc, n, hd⟩
  refine codeAny_forLoop_any (R := fun r s' => match r with | .ok f => Q f s' | .error e => cameBackBy (model prog w) A env E e s')
    (fun k s' => ∃ h' tk d m' nw i, s' = { s with heap := h', toks := tk, drawn := d } ∧ s.toks ≤ tk ∧ D d ∧ h'.IsListIter s.heap.objs.size ax i ∧ Fr h₀ env.locals h' m' ∧ News h₀ env.locals h' nw ∧ (∀ p ∈ nw, p.1 ≠ s.heap.objs.size) ∧ J (vs.drop i) m' nw ∧ i ≤ vs.length ∧ k = vs.length + 1 - i)
    ?_ (vs.length + 1) ⟨_, s.toks, s.drawn, m₀, news, 0, rfl, Nat.le_refl _, hD, ⟨_, Heap.get?_push_size _ rfl, rfl, rfl⟩, F.push _, (fun p hp => ⟨Heap.get?_push_of_some _ (N p hp).1, (N p hp).2⟩), (fun p hp => Nat.ne_of_lt (Heap.lt_size (N p hp).1)), (by rw [List.drop_zero]; exact h0), Nat.zero_le _, rfl⟩
  rintro k s' ⟨h', tk, d, m', nw, i, rfl, htk, hdd, hit, F', N', hoff, hj, hi, rfl⟩
  have next : ∀ h₁ : Heap, Heap.ExtBut s.heap.objs.size h' h₁ → Fr h₀ env.locals h₁ m' ∧ News h₀ env.locals h₁ nw := fun h₁ hs₁ =>
    ⟨⟨F'.ns.at' fun o e => hs₁ _ o hIL e, fun b o e => hs₁ b o (fun q => by rw [q, hIn] at e; cases e) (F'.keep b o e), F'.above⟩, fun p hp => ⟨hs₁ _ _ (hoff p hp) (N' p hp).1, (N' p hp).2⟩⟩
  have hl' := isl hj N'
  by_cases hlt' : i < vs.length
  · refine wpAny_pyNext_list_item hit hl' (x := vs[i]) (by simp [hlt']) fun h₁ hit₁ hs₁ => ?_
    obtain ⟨F₁, N₁⟩ := next h₁ hs₁.extBut
    show wpAny _ _ _ _ _ _
    rw [ht]
    refine wpAny_pure ?_
    have hdrop : vs.drop i = vs[i] :: vs.drop (i + 1) := List.drop_eq_getElem_cons hlt'
    rw [hdrop] at hj
    obtain ⟨ito, hito, hitc, hitd⟩ := hit₁
    have N₂ : News h₀ env.locals h₁ ((s.heap.objs.size, ito) :: nw) := fun p hp => by
      rcases List.mem_cons.mp hp with rfl | hp
      · exact ⟨hito, Ne.symm hIL, hIn⟩
      · exact N₁ p hp
    have T := turn vs[i] (vs.drop (i + 1)) m' nw ito s.heap.objs.size h₁ tk d hj htk hdd hoff hitc F₁ N₂
    refine wpAny_passesOwn hE (wpAny_mono (wpAny_toks T) (fun _ s₂ p => ?_) fun _ _ e => e.2)
    refine wpAny_passesOwn hE (wpAny_mono (wpAny_toks p.2) (fun f s₃ q => ?_) fun _ _ e => e.2)
    have hle : tk ≤ s₃.toks := Nat.le_trans p.1 q.1
    have fin : (∃ h' tk' d' m' nw', s₃ = { ({ s with heap := h₁, toks := tk, drawn := d } : Shared) with heap := h', toks := tk', drawn := d' } ∧ D d' ∧ Fr h₀ env.locals h' m' ∧ News h₀ env.locals h' ((s.heap.objs.size, ito) :: nw') ∧ (∀ p ∈ nw', p.1 ≠ s.heap.objs.size) ∧ J (vs.drop (i + 1)) m' nw') →
        ∃ mm, mm < vs.length + 1 - i ∧ ∃ h' tk d m' nw i', s₃ = { s with heap := h', toks := tk, drawn := d } ∧ s.toks ≤ tk ∧ D d ∧ h'.IsListIter s.heap.objs.size ax i' ∧ Fr h₀ env.locals h' m' ∧ News h₀ env.locals h' nw ∧ (∀ p ∈ nw, p.1 ≠ s.heap.objs.size) ∧ J (vs.drop i') m' nw ∧ i' ≤ vs.length ∧ mm = vs.length + 1 - i' := by
      rintro ⟨h₄, tk₄, d₄, m₄, nw₄, rfl, dd₄, F₄, N₄, o₄, j₄⟩
      exact ⟨vs.length + 1 - (i + 1), by omega, h₄, tk₄, d₄, m₄, nw₄, i + 1, rfl, Nat.le_trans htk hle, dd₄, ⟨ito, (N₄ _ (.head _)).1, hitc, hitd⟩, F₄, fun p hp => N₄ p (.tail _ hp), o₄, j₄, hlt', rfl⟩
    cases f with
    | ret v => exact q.2
    | brk => exact q.2
    | next => exact fin q.2
    | cont => exact fin q.2
  · have hin : i = vs.length := by omega
    subst hin
    refine wpAny_pyNext_list_end hh hit hl' (by simp) fun h₁ he₁ => wpAny_execs_nil ?_
    obtain ⟨F₁, N₁⟩ := next h₁ he₁
    rw [List.drop_length] at hj
    exact done m' nw h₁ tk d hj htk hdd F₁ N₁
end HforAt_listG
section V
variable {prog : Program} {w : World} {A : Around} {E : Value → Shared → Prop} {s : Shared} {env : Env} {h₀ : Heap} {body : List Stmt} {Q : Flow → Shared → Prop}
theorem forAt_listG (D : Drawn → Prop) (hD : D s.drawn) {target : Expr} {ax : Addr} {lo : Obj} {vs : List Value} {n : Nat} {m₀ : Str → Option Value} {news : List (Addr × Obj)} (J : List Value → (Str → Option Value) → List (Addr × Obj) → Prop)
    (hh : A.handled = none) (hE : PassesOwn (model prog w) A env E) (F : Fr h₀ env.locals s.heap m₀) (N : News h₀ env.locals s.heap news)
    (hc : lo.cls = .type "list") (hd : lo.data = .seq vs.toArray n) (hm : ∀ r m nw, J r m nw → (ax, lo) ∈ nw) (h0 : J vs m₀ news) (ht : ∀ v, letOwnedTupleGo target v = fun _ => pure () := by intro _; rfl)
    (turn : ∀ v r m nw it I h tk d, J (v :: r) m nw → s.toks ≤ tk → D d → (∀ p ∈ nw, p.1 ≠ I) → it.cls = .type "list_iterator" → Fr h₀ env.locals h m → News h₀ env.locals h ((I, it) :: nw) →
      wpAny (model prog w) A (assign target env v) (fun _ s₂ => wpAny (model prog w) A (execs body env) (TurnP D h₀ env.locals (J r) I it { s with heap := h, toks := tk, drawn := d } Q) E s₂) E { s with heap := h, toks := tk, drawn := d })
    (done : ∀ m nw h tk d, J [] m nw → s.toks ≤ tk → D d → Fr h₀ env.locals h m → News h₀ env.locals h nw → Q .next { s with heap := h, toks := tk, drawn := d }) :
    ForAt prog w A env target body [] Q E (.ref ax) s :=
  eps_allz (z := HforAt_listG.z₀) (P := fun z : HforAt_listG.Dat => HforAt_listG.Pre z.1 z.2.1 z.2.2.1 z.2.2.2.1 z.2.2.2.2.1 z.2.2.2.2.2.1 z.2.2.2.2.2.2.1 z.2.2.2.2.2.2.2.1 z.2.2.2.2.2.2.2.2.1 z.2.2.2.2.2.2.2.2.2.1 z.2.2.2.2.2.2.2.2.2.2.1 z.2.2.2.2.2.2.2.2.2.2.2.1 z.2.2.2.2.2.2.2.2.2.2.2.2.1 z.2.2.2.2.2.2.2.2.2.2.2.2.2.1 z.2.2.2.2.2.2.2.2.2.2.2.2.2.2.1 z.2.2.2.2.2.2.2.2.2.2.2.2.2.2.2.1 z.2.2.2.2.2.2.2.2.2.2.2.2.2.2.2.2.1 z.2.2.2.2.2.2.2.2.2.2.2.2.2.2.2.2.2) (by delta HforAt_listG.z₀; exact rfl) (by with_unfolding_all exact HforAt_listG.main) (prog, w, A, E, s, env, h₀, body, Q, D, target, ax, lo, vs, n, m₀, news, J) hD hh hE F N hc hd hm h0 ht turn done
theorem forAt_list (D : Drawn → Prop) (hD : D s.drawn) {x : Str} {px : Pos} {ax : Addr} {lo : Obj} {vs : List Value} {n : Nat} {m₀ : Str → Option Value} {news : List (Addr × Obj)} (J : List Value → (Str → Option Value) → List (Addr × Obj) → Prop)
    (hh : A.handled = none) (hE : PassesOwn (model prog w) A env E) (hx : env.kindOf x = some .local)
    (hp : (env.scope.kind == .class || (env.scope.kind == .module && env.locals != env.globals)) = false) (F : Fr h₀ env.locals s.heap m₀) (N : News h₀ env.locals s.heap news)
    (hc : lo.cls = .type "list") (hd : lo.data = .seq vs.toArray n) (hm : ∀ r m nw, J r m nw → (ax, lo) ∈ nw) (h0 : J vs m₀ news)
    (turn : ∀ v r m nw it I h tk d, J (v :: r) m nw → s.toks ≤ tk → D d → (∀ p ∈ nw, p.1 ≠ I) → it.cls = .type "list_iterator" → Fr h₀ env.locals h (fun y => if y = x then some v else m y) → News h₀ env.locals h ((I, it) :: nw) →
      wpAny (model prog w) A (execs body env) (TurnP D h₀ env.locals (J r) I it { s with heap := h, toks := tk, drawn := d } Q) E { s with heap := h, toks := tk, drawn := d })
    (done : ∀ m nw h tk d, J [] m nw → s.toks ≤ tk → D d → Fr h₀ env.locals h m → News h₀ env.locals h nw → Q .next { s with heap := h, toks := tk, drawn := d }) :
    ForAt prog w A env (.Name x px) body [] Q E (.ref ax) s := by
  refine forAt_listG D hD J hh hE F N hc hd hm h0 (fun _ => rfl) ?_ done
  intro v r m nw it I h tk d hj htk hdd hoff hic F₁ N₁
  refine wpAny_assign_Name (wpAny_storeName_local hx F₁.ns (fun h₂ hn₂ hs₂ => ?_) hp)
  have z := turn v r m nw it I h₂ (tk + 1) d hj (Nat.le_succ_of_le htk) hdd hoff hic (F₁.set hn₂ hs₂) (N₁.set hs₂)
  exact wpAny_mono z (fun f s₂ p => by cases f <;> exact p) fun _ _ e => e
theorem but_eq {x : Str} {m m₀ : Str → Option Value} (h : ∀ z, z ≠ x → m z = m₀ z) (v : Option Value) : (fun y => if y = x then v else m y) = fun y => if y = x then v else m₀ y := by
  funext y
  by_cases e : y = x
  · simp [e]
  · simp only [if_neg e]; exact h y e
theorem but_self {x : Str} {m m₀ : Str → Option Value} (h : ∀ z, z ≠ x → m z = m₀ z) : m = fun y => if y = x then m x else m₀ y := by
  funext y
  by_cases e : y = x
  · subst e; simp
  · simp only [if_neg e]; exact h y e
noncomputable def SearchPost (h₀ : Heap) (L : Addr) (x : Str) (xs : List Str) (m₀ : Str → Option Value) (need : List (Addr × Obj)) (Pm : Prop) (s₁ : Shared) (Q : Flow → Shared → Prop) (f : Flow) (s₂ : Shared) : Prop :=
  match f with
  | .ret v => Q (.ret v) s₂
  | .brk => Q .next s₂
  | _ => ∃ h' tk m' nw, s₂ = { s₁ with heap := h', toks := tk } ∧ Fr h₀ L h' m' ∧ News h₀ L h' nw ∧ (∀ p ∈ need, p ∈ nw) ∧ Pm ∧ ∀ z, z ≠ x → xs.contains z = false → m' z = m₀ z
end V
namespace HforAt_search
noncomputable def Pre (prog : Program) (w : World) (A : Around) (E : Value → Shared → Prop) (s : Shared) (env : Env) (h₀ : Heap) (body : List Stmt) (Q : Flow → Shared → Prop) (x : Str) (px : Pos) (ax : Addr) (lo : Obj) (vs : List Value) (ms : List Str) (n : Nat) (m₀ : Str → Option Value) (news : List (Addr × Obj)) (Pm : Str → Prop) (xs : List Str) : Prop :=
  (A.handled = none) → (env.kindOf x = some .local) → ((env.scope.kind == .class || (env.scope.kind == .module && env.locals != env.globals)) = false) → (Fr h₀ env.locals s.heap m₀) → (News h₀ env.locals s.heap news) → ((ax, lo) ∈ news) → (lo.cls = .type "list") → (lo.data = .seq vs.toArray n) → (StrsAre vs ms) → (∀ y t (u : Str → Option Value) it I h tk, y ∈ ms → s.toks ≤ tk → Fr h₀ env.locals h (fun z => if z = x then some (.str y t) else if xs.contains z = true then u z else m₀ z) → News h₀ env.locals h ((I, it) :: news) →
      wpAny (model prog w) A (execs body env) (SearchPost h₀ env.locals x xs m₀ ((I, it) :: news) (Pm y) { s with heap := h, toks := tk } Q) E { s with heap := h, toks := tk }) → (∀ (u : Str → Option Value) h tk, (∀ y ∈ ms, Pm y) → s.toks ≤ tk → Fr h₀ env.locals h (fun z => if z = x then u z else if xs.contains z = true then u z else m₀ z) → News h₀ env.locals h news → Q .next { s with heap := h, toks := tk }) → (PassesOwn (model prog w) A env E) → ForAt prog w A env (.Name x px) body [] Q E (.ref ax) s
noncomputable abbrev Dat : Type := Program × World × Around × (Value → Shared → Prop) × Shared × Env × Heap × (List Stmt) × (Flow → Shared → Prop) × Str × Pos × Addr × Obj × (List Value) × (List Str) × Nat × (Str → Option Value) × (List (Addr × Obj)) × (Str → Prop) × (List Str)
noncomputable def d₀ : Dat := (default, wd, ⟨none, 0, none, none, 1⟩, (fun _ _ => True), ⟨{}, #[], {}, 1, {}⟩, default, {}, [], (fun _ _ => True), (Str.ofString ""), default, (0 : Nat), default, [], [], 0, (fun _ => none), [], (fun _ => True), [])
@[irreducible] noncomputable def z₀ : Dat := eps d₀ fun z => ¬ Pre z.1 z.2.1 z.2.2.1 z.2.2.2.1 z.2.2.2.2.1 z.2.2.2.2.2.1 z.2.2.2.2.2.2.1 z.2.2.2.2.2.2.2.1 z.2.2.2.2.2.2.2.2.1 z.2.2.2.2.2.2.2.2.2.1 z.2.2.2.2.2.2.2.2.2.2.1 z.2.2.2.2.2.2.2.2.2.2.2.1 z.2.2.2.2.2.2.2.2.2.2.2.2.1 z.2.2.2.2.2.2.2.2.2.2.2.2.2.1 z.2.2.2.2.2.2.2.2.2.2.2.2.2.2.1 z.2.2.2.2.2.2.2.2.2.2.2.2.2.2.2.1 z.2.2.2.2.2.2.2.2.2.2.2.2.2.2.2.2.1 z.2.2.2.2.2.2.2.2.2.2.2.2.2.2.2.2.2.1 z.2.2.2.2.2.2.2.2.2.2.2.2.2.2.2.2.2.2.1 z.2.2.2.2.2.2.2.2.2.2.2.2.2.2.2.2.2.2.2
@[irreducible] noncomputable def prog : Program := z₀.1
@[irreducible] noncomputable def w : World := z₀.2.1
@[irreducible] noncomputable def A : Around := z₀.2.2.1
@[irreducible] noncomputable def E : Value → Shared → Prop := z₀.2.2.2.1
@[irreducible] noncomputable def s : Shared := z₀.2.2.2.2.1
@[irreducible] noncomputable def env : Env := z₀.2.2.2.2.2.1
@[irreducible] noncomputable def h₀ : Heap := z₀.2.2.2.2.2.2.1
@[irreducible] noncomputable def body : List Stmt := z₀.2.2.2.2.2.2.2.1
@[irreducible] noncomputable def Q : Flow → Shared → Prop := z₀.2.2.2.2.2.2.2.2.1
@[irreducible] noncomputable def x : Str := z₀.2.2.2.2.2.2.2.2.2.1
@[irreducible] noncomputable def px : Pos := z₀.2.2.2.2.2.2.2.2.2.2.1
@[irreducible] noncomputable def ax : Addr := z₀.2.2.2.2.2.2.2.2.2.2.2.1
@[irreducible] noncomputable def lo : Obj := z₀.2.2.2.2.2.2.2.2.2.2.2.2.1
@[irreducible] noncomputable def vs : List Value := z₀.2.2.2.2.2.2.2.2.2.2.2.2.2.1
@[irreducible] noncomputable def ms : List Str := z₀.2.2.2.2.2.2.2.2.2.2.2.2.2.2.1
@[irreducible] noncomputable def n : Nat := z₀.2.2.2.2.2.2.2.2.2.2.2.2.2.2.2.1
@[irreducible] noncomputable def m₀ : Str → Option Value := z₀.2.2.2.2.2.2.2.2.2.2.2.2.2.2.2.2.1
@[irreducible] noncomputable def news : List (Addr × Obj) := z₀.2.2.2.2.2.2.2.2.2.2.2.2.2.2.2.2.2.1
@[irreducible] noncomputable def Pm : Str → Prop := z₀.2.2.2.2.2.2.2.2.2.2.2.2.2.2.2.2.2.2.1
@[irreducible] noncomputable def xs : List Str := z₀.2.2.2.2.2.2.2.2.2.2.2.2.2.2.2.2.2.2.2
theorem main : Pre prog w A E s env h₀ body Q x px ax lo vs ms n m₀ news Pm xs := by
  intro hh hx hp F N hm hc hd hv turn done hE
  have eqm : ∀ {m' : Str → Option Value}, (∀ z, z ≠ x → xs.contains z = false → m' z = m₀ z) → ∀ v : Str → Option Value, (fun z => if z = x then v z else m' z) = fun z => if z = x then v z else if xs.contains z = true then m' z else m₀ z := by
    intro m' hz v
    funext z
    by_cases e : z = x
    · simp [e]
    · simp only [if_neg e]
      cases q : xs.contains z with
      | true => simp
      | false => simp only [Bool.false_eq_true, if_false]; exact hz z e q
  refine forAt_list (fun d => d = s.drawn) rfl (fun r m nw => (∀ p ∈ news, p ∈ nw) ∧ (∀ z, z ≠ x → xs.contains z = false → m z = m₀ z) ∧ ∃ ys, StrsAre r ys ∧ (∀ y ∈ ys, y ∈ ms) ∧ ∀ y ∈ ms, y ∈ ys ∨ Pm y) hh hE hx hp F N hc hd (fun _ _ _ h => h.1 _ hm) ⟨fun _ h => h, fun _ _ _ => rfl, ms, hv, fun _ h => h, fun _ h => .inl h⟩ ?_ ?_
  · rintro v r m nw it I h tk _ ⟨hsub, hmm, ys, hr, hs, hpp⟩ htk rfl hoff hic F₁ N₁
    cases hr with
    | cons y t hr' =>
    rename_i ys'
    rw [eqm hmm (fun _ => some (.str y t))] at F₁
    have N₂ : News h₀ env.locals h ((I, it) :: news) := fun p hp => by
      rcases List.mem_cons.mp hp with rfl | hp
      · exact N₁ _ (.head _)
      · exact N₁ _ (.tail _ (hsub p hp))
    refine wpAny_mono (turn y t m it I h tk (hs y (.head _)) htk F₁ N₂) (fun f s₂ p => ?_) fun _ _ e => e
    have fin : (∃ h' tk' m' nw', s₂ = { ({ s with heap := h, toks := tk } : Shared) with heap := h', toks := tk' } ∧ Fr h₀ env.locals h' m' ∧ News h₀ env.locals h' nw' ∧ (∀ p ∈ (I, it) :: news, p ∈ nw') ∧ Pm y ∧ ∀ z, z ≠ x → xs.contains z = false → m' z = m₀ z) →
        ∃ h' tk' d' m' nw', s₂ = { ({ s with heap := h, toks := tk } : Shared) with heap := h', toks := tk', drawn := d' } ∧ d' = s.drawn ∧ Fr h₀ env.locals h' m' ∧ News h₀ env.locals h' ((I, it) :: nw') ∧ (∀ p ∈ nw', p.1 ≠ I) ∧ (∀ p ∈ news, p ∈ nw') ∧ (∀ z, z ≠ x → xs.contains z = false → m' z = m₀ z) ∧ ∃ ys, StrsAre r ys ∧ (∀ y ∈ ys, y ∈ ms) ∧ ∀ y ∈ ms, y ∈ ys ∨ Pm y := by
      rintro ⟨h', tk', m', nw', e1, F', N', sub', hP, hz⟩
      refine ⟨h', tk', s.drawn, m', news, e1, rfl, F', fun p hp => N' p (sub' p hp), fun p hp => hoff p (hsub p hp), fun _ h => h, hz, ys', hr', fun z hz' => hs z (.tail _ hz'), fun z hz' => ?_⟩
      rcases hpp z hz' with q | q
      · rcases List.mem_cons.mp q with rfl | q
        · exact .inr hP
        · exact .inl q
      · exact .inr q
    cases f with
    | ret v => exact p
    | brk => exact p
    | next => exact fin p
    | cont => exact fin p
  · rintro m nw h tk _ ⟨hsub, hmm, ys, hr, _, hpp⟩ htk rfl F₁ N₁
    cases hr
    have e : m = fun z => if z = x then m z else if xs.contains z = true then m z else m₀ z := by
      rw [← eqm hmm m]; funext z; simp
    rw [e] at F₁
    refine done m h tk (fun y hy => ?_) htk F₁ fun p hp => N₁ p (hsub p hp)
    rcases hpp y hy with q | q
    · cases q
    · exact q
end HforAt_search
section V
variable {prog : Program} {w : World} {A : Around} {E : Value → Shared → Prop} {s : Shared} {env : Env} {h₀ : Heap} {body : List Stmt} {Q : Flow → Shared → Prop}
/-- a search along a ledger's list of texts: the body leaves, or changes nothing but the loop's name (and the names xs) -/
theorem forAt_search {x : Str} {px : Pos} {ax : Addr} {lo : Obj} {vs : List Value} {ms : List Str} {n : Nat} {m₀ : Str → Option Value} {news : List (Addr × Obj)} (Pm : Str → Prop) (xs : List Str)
    (hh : A.handled = none) (hx : env.kindOf x = some .local)
    (hp : (env.scope.kind == .class || (env.scope.kind == .module && env.locals != env.globals)) = false) (F : Fr h₀ env.locals s.heap m₀) (N : News h₀ env.locals s.heap news)
    (hm : (ax, lo) ∈ news) (hc : lo.cls = .type "list") (hd : lo.data = .seq vs.toArray n) (hv : StrsAre vs ms)
    (turn : ∀ y t (u : Str → Option Value) it I h tk, y ∈ ms → s.toks ≤ tk → Fr h₀ env.locals h (fun z => if z = x then some (.str y t) else if xs.contains z = true then u z else m₀ z) → News h₀ env.locals h ((I, it) :: news) →
      wpAny (model prog w) A (execs body env) (SearchPost h₀ env.locals x xs m₀ ((I, it) :: news) (Pm y) { s with heap := h, toks := tk } Q) E { s with heap := h, toks := tk })
    (done : ∀ (u : Str → Option Value) h tk, (∀ y ∈ ms, Pm y) → s.toks ≤ tk → Fr h₀ env.locals h (fun z => if z = x then u z else if xs.contains z = true then u z else m₀ z) → News h₀ env.locals h news → Q .next { s with heap := h, toks := tk })
    (hE : PassesOwn (model prog w) A env E := by passes_own) :
    ForAt prog w A env (.Name x px) body [] Q E (.ref ax) s :=
  eps_allz (z := HforAt_search.z₀) (P := fun z : HforAt_search.Dat => HforAt_search.Pre z.1 z.2.1 z.2.2.1 z.2.2.2.1 z.2.2.2.2.1 z.2.2.2.2.2.1 z.2.2.2.2.2.2.1 z.2.2.2.2.2.2.2.1 z.2.2.2.2.2.2.2.2.1 z.2.2.2.2.2.2.2.2.2.1 z.2.2.2.2.2.2.2.2.2.2.1 z.2.2.2.2.2.2.2.2.2.2.2.1 z.2.2.2.2.2.2.2.2.2.2.2.2.1 z.2.2.2.2.2.2.2.2.2.2.2.2.2.1 z.2.2.2.2.2.2.2.2.2.2.2.2.2.2.1 z.2.2.2.2.2.2.2.2.2.2.2.2.2.2.2.1 z.2.2.2.2.2.2.2.2.2.2.2.2.2.2.2.2.1 z.2.2.2.2.2.2.2.2.2.2.2.2.2.2.2.2.2.1 z.2.2.2.2.2.2.2.2.2.2.2.2.2.2.2.2.2.2.1 z.2.2.2.2.2.2.2.2.2.2.2.2.2.2.2.2.2.2.2) (by delta HforAt_search.z₀; exact rfl) (by with_unfolding_all exact HforAt_search.main) (prog, w, A, E, s, env, h₀, body, Q, x, px, ax, lo, vs, ms, n, m₀, news, Pm, xs) hh hx hp F N hm hc hd hv turn done hE
theorem gentoks {α : Type} {M : Model} {A : Around} {t : Sem α} {Q : α → Shared → Prop} {E : Value → Shared → Prop} {h : Heap} {g : Array GenState} {d : Drawn} {k : Nat} {os : OsState} (n : Nat) (hn : n ≤ k) (H : ∀ tk, n ≤ tk → wpAny M A t Q E ⟨h, g, d, tk, os⟩) : wpAny M A t Q E ⟨h, g, d, k, os⟩ := H k hn
/-- the end of a turn of a loop that stores one local name y besides its own -/
noncomputable def TurnV (D : Drawn → Prop) (h₀ : Heap) (L : Addr) (x y : Str) (m₀ : Str → Option Value) (J : Value → List (Addr × Obj) → Prop) (I : Addr) (it : Obj) (s₁ : Shared) (Q : Flow → Shared → Prop) (f : Flow) (s₂ : Shared) : Prop :=
  match f with
  | .ret v => Q (.ret v) s₂
  | .brk => Q .next s₂
  | _ => ∃ h' tk d m' nw val, s₂ = { s₁ with heap := h', toks := tk, drawn := d } ∧ D d ∧ Fr h₀ L h' m' ∧ News h₀ L h' ((I, it) :: nw) ∧ (∀ p ∈ nw, p.1 ≠ I) ∧ m' y = some val ∧ J val nw ∧ ∀ z, z ≠ x → z ≠ y → m' z = m₀ z
end V
namespace HforAt_var
noncomputable def Pre (prog : Program) (w : World) (A : Around) (E : Value → Shared → Prop) (s : Shared) (env : Env) (h₀ : Heap) (body : List Stmt) (Q : Flow → Shared → Prop) (D : Drawn → Prop) (x : Str) (y : Str) (px : Pos) (ax : Addr) (lo : Obj) (vs : List Value) (n : Nat) (m₀ : Str → Option Value) (news : List (Addr × Obj)) (J : List Value → Value → List (Addr × Obj) → Prop) (val₀ : Value) : Prop :=
  (D s.drawn) → (y ≠ x) → (A.handled = none) → (env.kindOf x = some .local) → ((env.scope.kind == .class || (env.scope.kind == .module && env.locals != env.globals)) = false) → (Fr h₀ env.locals s.heap m₀) → (News h₀ env.locals s.heap news) → (lo.cls = .type "list") → (lo.data = .seq vs.toArray n) → (∀ r m nw, J r m nw → (ax, lo) ∈ nw) → (m₀ y = some val₀) → (J vs val₀ news) → (∀ v r val nw it I h tk d, J (v :: r) val nw → s.toks ≤ tk → D d → (∀ p ∈ nw, p.1 ≠ I) → it.cls = .type "list_iterator" → Fr h₀ env.locals h (fun z => if z = x then some v else if z = y then some val else m₀ z) → News h₀ env.locals h ((I, it) :: nw) →
      wpAny (model prog w) A (execs body env) (TurnV D h₀ env.locals x y m₀ (J r) I it { s with heap := h, toks := tk, drawn := d } Q) E { s with heap := h, toks := tk, drawn := d }) → (∀ u val nw h tk d, J [] val nw → s.toks ≤ tk → D d → Fr h₀ env.locals h (fun z => if z = x then u else if z = y then some val else m₀ z) → News h₀ env.locals h nw → Q .next { s with heap := h, toks := tk, drawn := d }) → (PassesOwn (model prog w) A env E) → ForAt prog w A env (.Name x px) body [] Q E (.ref ax) s
noncomputable abbrev Dat : Type := Program × World × Around × (Value → Shared → Prop) × Shared × Env × Heap × (List Stmt) × (Flow → Shared → Prop) × (Drawn → Prop) × Str × Str × Pos × Addr × Obj × (List Value) × Nat × (Str → Option Value) × (List (Addr × Obj)) × (List Value → Value → List (Addr × Obj) → Prop) × Value
noncomputable def d₀ : Dat := (default, wd, ⟨none, 0, none, none, 1⟩, (fun _ _ => True), ⟨{}, #[], {}, 1, {}⟩, default, {}, [], (fun _ _ => True), (fun _ => True), (Str.ofString ""), (Str.ofString ""), default, (0 : Nat), default, [], 0, (fun _ => none), [], (fun _ _ _ => True), Value.none)
@[irreducible] noncomputable def z₀ : Dat := eps d₀ fun z => ¬ Pre z.1 z.2.1 z.2.2.1 z.2.2.2.1 z.2.2.2.2.1 z.2.2.2.2.2.1 z.2.2.2.2.2.2.1 z.2.2.2.2.2.2.2.1 z.2.2.2.2.2.2.2.2.1 z.2.2.2.2.2.2.2.2.2.1 z.2.2.2.2.2.2.2.2.2.2.1 z.2.2.2.2.2.2.2.2.2.2.2.1 z.2.2.2.2.2.2.2.2.2.2.2.2.1 z.2.2.2.2.2.2.2.2.2.2.2.2.2.1 z.2.2.2.2.2.2.2.2.2.2.2.2.2.2.1 z.2.2.2.2.2.2.2.2.2.2.2.2.2.2.2.1 z.2.2.2.2.2.2.2.2.2.2.2.2.2.2.2.2.1 z.2.2.2.2.2.2.2.2.2.2.2.2.2.2.2.2.2.1 z.2.2.2.2.2.2.2.2.2.2.2.2.2.2.2.2.2.2.1 z.2.2.2.2.2.2.2.2.2.2.2.2.2.2.2.2.2.2.2.1 z.2.2.2.2.2.2.2.2.2.2.2.2.2.2.2.2.2.2.2.2
@[irreducible] noncomputable def prog : Program := z₀.1
@[irreducible] noncomputable def w : World := z₀.2.1
@[irreducible] noncomputable def A : Around := z₀.2.2.1
@[irreducible] noncomputable def E : Value → Shared → Prop := z₀.2.2.2.1
@[irreducible] noncomputable def s : Shared := z₀.2.2.2.2.1
@[irreducible] noncomputable def env : Env := z₀.2.2.2.2.2.1
@[irreducible] noncomputable def h₀ : Heap := z₀.2.2.2.2.2.2.1
@[irreducible] noncomputable def body : List Stmt := z₀.2.2.2.2.2.2.2.1
@[irreducible] noncomputable def Q : Flow → Shared → Prop := z₀.2.2.2.2.2.2.2.2.1
@[irreducible] noncomputable def D : Drawn → Prop := z₀.2.2.2.2.2.2.2.2.2.1
@[irreducible] noncomputable def x : Str := z₀.2.2.2.2.2.2.2.2.2.2.1
@[irreducible] noncomputable def y : Str := z₀.2.2.2.2.2.2.2.2.2.2.2.1
@[irreducible] noncomputable def px : Pos := z₀.2.2.2.2.2.2.2.2.2.2.2.2.1
@[irreducible] noncomputable def ax : Addr := z₀.2.2.2.2.2.2.2.2.2.2.2.2.2.1
@[irreducible] noncomputable def lo : Obj := z₀.2.2.2.2.2.2.2.2.2.2.2.2.2.2.1
@[irreducible] noncomputable def vs : List Value := z₀.2.2.2.2.2.2.2.2.2.2.2.2.2.2.2.1
@[irreducible] noncomputable def n : Nat := z₀.2.2.2.2.2.2.2.2.2.2.2.2.2.2.2.2.1
@[irreducible] noncomputable def m₀ : Str → Option Value := z₀.2.2.2.2.2.2.2.2.2.2.2.2.2.2.2.2.2.1
@[irreducible] noncomputable def news : List (Addr × Obj) := z₀.2.2.2.2.2.2.2.2.2.2.2.2.2.2.2.2.2.2.1
@[irreducible] noncomputable def J : List Value → Value → List (Addr × Obj) → Prop := z₀.2.2.2.2.2.2.2.2.2.2.2.2.2.2.2.2.2.2.2.1
@[irreducible] noncomputable def val₀ : Value := z₀.2.2.2.2.2.2.2.2.2.2.2.2.2.2.2.2.2.2.2.2
theorem main : Pre prog w A E s env h₀ body Q D x y px ax lo vs n m₀ news J val₀ := by
  intro hD hyx hh hx hp F N hc hd hm hv h0 turn done hE
  have eqm : ∀ {m' : Str → Option Value} {val : Value}, m' y = some val → (∀ z, z ≠ x → z ≠ y → m' z = m₀ z) → ∀ v : Option Value, (fun z => if z = x then v else m' z) = fun z => if z = x then v else if z = y then some val else m₀ z := by
    intro m' val hy hz v
    funext z
    by_cases e : z = x
    · simp [e]
    · simp only [if_neg e]
      by_cases q : z = y
      · subst q; simp [hy]
      · simp only [if_neg q]; exact hz z e q
  refine forAt_list D hD (fun r m nw => ∃ val, m y = some val ∧ J r val nw ∧ ∀ z, z ≠ x → z ≠ y → m z = m₀ z) hh hE hx hp F N hc hd (fun r m nw h => let ⟨_, _, j, _⟩ := h; hm _ _ _ j) ⟨val₀, hv, h0, fun _ _ _ => rfl⟩ ?_ ?_
  · rintro v r m nw it I h tk d ⟨val, hy, hj, hz⟩ htk hd hoff hic F₁ N₁
    rw [eqm hy hz (some v)] at F₁
    refine wpAny_mono (turn v r val nw it I h tk d hj htk hd hoff hic F₁ N₁) (fun f s₂ p => ?_) fun _ _ e => e
    have fin : (∃ h' tk' d' m' nw' val', s₂ = { ({ s with heap := h, toks := tk, drawn := d } : Shared) with heap := h', toks := tk', drawn := d' } ∧ D d' ∧ Fr h₀ env.locals h' m' ∧ News h₀ env.locals h' ((I, it) :: nw') ∧ (∀ p ∈ nw', p.1 ≠ I) ∧ m' y = some val' ∧ J r val' nw' ∧ ∀ z, z ≠ x → z ≠ y → m' z = m₀ z) →
        ∃ h' tk' d' m' nw', s₂ = { ({ s with heap := h, toks := tk, drawn := d } : Shared) with heap := h', toks := tk', drawn := d' } ∧ D d' ∧ Fr h₀ env.locals h' m' ∧ News h₀ env.locals h' ((I, it) :: nw') ∧ (∀ p ∈ nw', p.1 ≠ I) ∧ ∃ val, m' y = some val ∧ J r val nw' ∧ ∀ z, z ≠ x → z ≠ y → m' z = m₀ z := by
      rintro ⟨h', tk', d', m', nw', val', e1, e2, e3, e4, e5, e6, e7, e8⟩
      exact ⟨h', tk', d', m', nw', e1, e2, e3, e4, e5, val', e6, e7, e8⟩
    cases f with
    | ret v => exact p
    | brk => exact p
    | next => exact fin p
    | cont => exact fin p
  · rintro m nw h tk d ⟨val, hy, hj, hz⟩ htk hd F₁ N₁
    have e : m = fun z => if z = x then m x else if z = y then some val else m₀ z := by
      rw [← eqm hy hz (m x)]; funext z
      by_cases q : z = x
      · subst q; simp
      · simp [q]
    rw [e] at F₁
    exact done (m x) val nw h tk d hj htk hd F₁ N₁
end HforAt_var
section V
variable {prog : Program} {w : World} {A : Around} {E : Value → Shared → Prop} {s : Shared} {env : Env} {h₀ : Heap} {body : List Stmt} {Q : Flow → Shared → Prop}
theorem forAt_var (D : Drawn → Prop) (hD : D s.drawn) {x : Str} (y : Str) (hyx : y ≠ x) {px : Pos} {ax : Addr} {lo : Obj} {vs : List Value} {n : Nat} {m₀ : Str → Option Value} {news : List (Addr × Obj)} (J : List Value → Value → List (Addr × Obj) → Prop)
    (hh : A.handled = none) (hx : env.kindOf x = some .local)
    (hp : (env.scope.kind == .class || (env.scope.kind == .module && env.locals != env.globals)) = false) (F : Fr h₀ env.locals s.heap m₀) (N : News h₀ env.locals s.heap news)
    (hc : lo.cls = .type "list") (hd : lo.data = .seq vs.toArray n) (hm : ∀ r m nw, J r m nw → (ax, lo) ∈ nw) {val₀ : Value} (hv : m₀ y = some val₀) (h0 : J vs val₀ news)
    (turn : ∀ v r val nw it I h tk d, J (v :: r) val nw → s.toks ≤ tk → D d → (∀ p ∈ nw, p.1 ≠ I) → it.cls = .type "list_iterator" → Fr h₀ env.locals h (fun z => if z = x then some v else if z = y then some val else m₀ z) → News h₀ env.locals h ((I, it) :: nw) →
      wpAny (model prog w) A (execs body env) (TurnV D h₀ env.locals x y m₀ (J r) I it { s with heap := h, toks := tk, drawn := d } Q) E { s with heap := h, toks := tk, drawn := d })
    (done : ∀ u val nw h tk d, J [] val nw → s.toks ≤ tk → D d → Fr h₀ env.locals h (fun z => if z = x then u else if z = y then some val else m₀ z) → News h₀ env.locals h nw → Q .next { s with heap := h, toks := tk, drawn := d })
    (hE : PassesOwn (model prog w) A env E := by passes_own) :
    ForAt prog w A env (.Name x px) body [] Q E (.ref ax) s :=
  eps_allz (z := HforAt_var.z₀) (P := fun z : HforAt_var.Dat => HforAt_var.Pre z.1 z.2.1 z.2.2.1 z.2.2.2.1 z.2.2.2.2.1 z.2.2.2.2.2.1 z.2.2.2.2.2.2.1 z.2.2.2.2.2.2.2.1 z.2.2.2.2.2.2.2.2.1 z.2.2.2.2.2.2.2.2.2.1 z.2.2.2.2.2.2.2.2.2.2.1 z.2.2.2.2.2.2.2.2.2.2.2.1 z.2.2.2.2.2.2.2.2.2.2.2.2.1 z.2.2.2.2.2.2.2.2.2.2.2.2.2.1 z.2.2.2.2.2.2.2.2.2.2.2.2.2.2.1 z.2.2.2.2.2.2.2.2.2.2.2.2.2.2.2.1 z.2.2.2.2.2.2.2.2.2.2.2.2.2.2.2.2.1 z.2.2.2.2.2.2.2.2.2.2.2.2.2.2.2.2.2.1 z.2.2.2.2.2.2.2.2.2.2.2.2.2.2.2.2.2.2.1 z.2.2.2.2.2.2.2.2.2.2.2.2.2.2.2.2.2.2.2.1 z.2.2.2.2.2.2.2.2.2.2.2.2.2.2.2.2.2.2.2.2) (by delta HforAt_var.z₀; exact rfl) (by with_unfolding_all exact HforAt_var.main) (prog, w, A, E, s, env, h₀, body, Q, D, x, y, px, ax, lo, vs, n, m₀, news, J, val₀) hD hyx hh hx hp F N hc hd hm hv h0 turn done hE
end V
end
end
section
/-- the heap's part below n -/
noncomputable def pre (h : Heap) (n : Nat) : Heap := { h with objs := h.objs.extract 0 n }
theorem pre_size {h : Heap} {n : Nat} : (pre h n).objs.size ≤ n := by
  show (h.objs.extract 0 n).size ≤ n
  rw [Array.size_extract]; omega
theorem pre_get {h : Heap} {n b : Nat} (hb : b < n) : (pre h n).get? b = h.get? b := by
  have e : (pre h n).objs[b]? = h.objs[b]? := by
    show (h.objs.extract 0 n)[b]? = h.objs[b]?
    rw [Array.getElem?_extract]
    by_cases q : b < min n h.objs.size - 0
    · rw [if_pos q, Nat.zero_add]
    · rw [if_neg q]
      have : h.objs.size ≤ b := by omega
      exact (Array.getElem?_eq_none this).symm
  unfold Heap.get?
  rw [e]
theorem pre_none {h : Heap} {n b : Nat} (hb : n ≤ b) : (pre h n).get? b = none := Heap.get?_none_of_le (Nat.le_trans pre_size hb)
theorem pre_of {h : Heap} {n b : Nat} {o : Obj} (e : (pre h n).get? b = some o) : h.get? b = some o := by
  by_cases q : b < n
  · rw [← pre_get q]; exact e
  · rw [pre_none (Nat.le_of_not_lt q)] at e; cases e
variable {w : World} {A A' A₀ : Around} {E' : Value → Shared → Prop} {s : Shared} {K : Frag} {L L' : Addr} {g h₀ base : Heap} {m m' mg mb : Str → Option Value} {news cells : List (Addr × Obj)} {p : Program} {loose : List Str} {mean : ExcName → Option Value} {outer : List Env}
/-- what is behind a call where the frozen objects stand as before -/
noncomputable def Still (h₀ : Heap) (L : Addr) (news : List (Addr × Obj)) (R : Result → Shared → Prop) (r : Result) (s' : Shared) : Prop :=
  match r with
  | .ok x => News h₀ L s'.heap news → R (.ok x) s'
  | .error e => R (.error e) s'
theorem rebase {t : Sem Flow} {R : Result → Shared → Prop} {f : Flow → Value} (F1 : Fr g L' s.heap m') (N1 : News g L' s.heap (cells ++ news)) (B1 : Below A base outer g) (X1 : K.In g) (T1 : Top p loose mean mg mb g)
    (lt : ∀ q ∈ news, @LT.lt Nat _ q.1 L') (hc : ∀ q ∈ cells, @LE.le Nat _ L' q.1) (FG : Fr h₀ L g m)
    (h : ∀ g', Fr h₀ L g' m → Fr g' L' s.heap m' → News g' L' s.heap cells → Below A base outer g' → K.In g' → Top p loose mean mg mb g' → (∀ q ∈ news, g'.get? q.1 = some q.2) →
      wpAny (model P w) A' t (fun fl s' => LeaveK h₀ L m g' (Still h₀ L news R) (f fl) s') E' s) :
    wpAny (model P w) A' t (fun fl s' => LeaveK h₀ L m g R (f fl) s') E' s := by
  have hk : ∀ b o, g.get? b = some o → (pre s.heap L').get? b = some o := fun b o e => by
    rw [pre_get (Nat.lt_of_lt_of_le (Heap.lt_size e) F1.above)]
    exact F1.keep b o e
  have hn : ∀ q ∈ news, (pre s.heap L').get? q.1 = some q.2 := fun q hq => by
    rw [pre_get (lt q hq)]
    exact (N1 q (List.mem_append_right _ hq)).1
  refine wpAny_mono (h (pre s.heap L') ⟨FG.ns.keeps hk, fun b o e => hk b o (FG.keep b o e), FG.above⟩ ⟨F1.ns, fun b o e => pre_of e, pre_size⟩ (fun q hq => ⟨(N1 q (List.mem_append_left _ hq)).1, (N1 q (List.mem_append_left _ hq)).2.1, pre_none (hc q hq)⟩)
    ⟨B1.stack, fun b o e => hk b o (B1.stays b o e), B1.frames.of_keeps fun b o e _ => ⟨o, hk b o e, rfl⟩⟩ (X1.keeps hk) (T1.keeps hk) hn) (fun fl s' hl => ?_) fun _ _ e => e
  obtain ⟨L2, m2, n2, F2, N2, k⟩ := hl
  refine ⟨L2, m2, n2 ++ news, ⟨F2.ns, fun b o e => F2.keep b o (hk b o e), ?_⟩, fun q hq => ?_, fun F N => ?_⟩
  · refine Nat.le_trans ?_ F2.above
    show g.objs.size ≤ (s.heap.objs.extract 0 L').size
    rw [Array.size_extract]
    have h1 := F1.above
    have h2 : L' < s.heap.objs.size := F1.ns.lt
    have h1' : @LE.le Nat _ g.objs.size L' := h1
    have h2' : @LT.lt Nat _ L' s.heap.objs.size := h2
    omega
  · rcases List.mem_append.mp hq with hq | hq
    · refine ⟨(N2 q hq).1, (N2 q hq).2.1, ?_⟩
      cases e : g.get? q.1 with
      | none => rfl
      | some o => have := hk _ _ e; rw [(N2 q hq).2.2] at this; cases this
    · refine ⟨F2.keep _ _ (hn q hq), fun e => ?_, (N1 q (List.mem_append_right _ hq)).2.2⟩
      have h3 := Heap.lt_size (hn q hq)
      have h4 := F2.above
      rw [e] at h3
      exact absurd (Nat.lt_of_lt_of_le h3 h4) (Nat.lt_irrefl _)
  · exact k F (fun q hq => N q (List.mem_append_left _ hq)) (fun q hq => N q (List.mem_append_right _ hq))
theorem cf_ge (k : Nat) : ∀ (names : List (Str × NameKind)) (n : Nat) (acc : List (Str × Addr)), k ≤ n → (∀ q ∈ acc, @LE.le Nat _ k q.2) → ∀ q ∈ cellsFrom n names acc, @LE.le Nat _ k q.2
  | [], _, _, _, h => h
  | (x, kind) :: r, n, acc, hn, h => by
    unfold cellsFrom
    split
    · refine cf_ge k r (n + 1) _ (by omega) fun q hq => ?_
      rcases List.mem_cons.mp hq with rfl | hq
      · exact hn
      · exact h q hq
    · exact cf_ge k r n acc hn h
theorem ca_mem {cm : Str → Option Value} : ∀ {cs : List (Str × Addr)} {cells : List (Addr × Obj)}, CellsAre cm cs cells → ∀ q ∈ cells, ∃ x ∈ cs, x.2 = q.1
  | _, _, .nil, _, h => by cases h
  | _, _, .cons _ hr, q, h => by
    rcases List.mem_cons.mp h with rfl | h
    · exact ⟨_, .head _, rfl⟩
    · obtain ⟨x, hx, e⟩ := ca_mem hr q h
      exact ⟨x, .tail _ hx, e⟩
section
variable {prog : Program} {Q : Value → Shared → Prop} {E : Value → Shared → Prop}
/-- entering a def where all that the caller has made stands frozen -/
theorem code_frz {env : Env} {outer : List Env} {R : Result → Shared → Prop} {name qual : Str} {params : Arguments} {body : List Stmt} {scope : Scope} {dV kV doc pm cdv ct oc : Value} {an od : Option Addr} {osl : Array (Option Value)} {f : Addr} {args : Args} {binds : List (Str × Value)}
    (B : Below A₀ base outer h₀) (F : Fr h₀ L s.heap m) (X₀ : K.In h₀) (N : News h₀ L s.heap news) (T : Top p loose mean mg mb h₀) (hA : A.frames = some (env :: outer)) (hf : env.frame = some L) (hke : env.scope.kind = .function)
    (ho : K.lookup f = some ⟨oc, od, .func (fnOf name qual params body scope dV kV doc pm an cdv ct), osl⟩) (hcd : codeIn K cdv qual = true) (hroom : A.depth < recursionLimit)
    (hbind : BindsTo s (fnOf name qual params body scope dV kV doc pm an cdv ct) args binds) (hloc : ∀ y ∈ binds, scope.names.lookup y.1 = some .local)
    (h : ∀ g L' h₁, Fr h₀ L g m → Fr g L' h₁ (fun y => binds.reverse.lookup y) → News g L' h₁ [] → Below A base (env :: outer) g → K.In g → Top p loose mean mg mb g → (∀ q ∈ news, g.get? q.1 = some q.2) →
      wpAny (model P w) (A.deeper (envOf qual scope L' f cdv)) (execs body (envOf qual scope L' f cdv))
        (fun fl s' => LeaveK h₀ L m g (Still h₀ L news R) (match fl with | .ret v => v | _ => .none) s')
        (fun e s' => wpAny (model P w) (A.deeper (envOf qual scope L' f cdv)) (leaving (envOf qual scope L' f cdv) e) (fun _ s'' => R (.error e) s'') (fun e' s'' => R (.error e') s'') s')
        { s with heap := h₁, toks := s.toks + binds.length })
    (hco : scope.isCoroutine = false) (hgen : scope.isGenerator = false) (hk : scope.kind = .function)
    (hcell : ∀ x ∈ scope.names, x.2 ≠ .cell) : codeAny (model P w) A (.call (.ref f) args) R s :=
  callX_plain (cl := []) B F N T.nolimit hA hf hke ((X₀.keeps F.keep) _ _ ho) rfl (codeRec_of (X₀.keeps F.keep) hcd) hroom hbind hloc (fun g L' h₁ FG F' N' B' st lt =>
    rebase (cells := []) (f := fun fl => match fl with | .ret v => v | _ => .none) F' N' B' (X₀.keeps st) (T.keeps st) lt (fun _ h => by cases h) FG fun g' FG' F2 N2 B2 X2 T2 hn => h g' L' h₁ FG' F2 N2 B2 X2 T2 hn) hcell hco hgen hk
/-- entering a def: the ledger, and that it lies below the new frame -/
theorem code_led {env : Env} {outer : List Env} {R : Result → Shared → Prop} {name qual : Str} {params : Arguments} {body : List Stmt} {scope : Scope} {dV kV doc pm cdv ct oc : Value} {an od : Option Addr} {osl : Array (Option Value)} {f : Addr} {args : Args} {binds : List (Str × Value)}
    (B : Below A₀ base outer h₀) (F : Fr h₀ L s.heap m) (X₀ : K.In h₀) (N : News h₀ L s.heap news) (T : Top p loose mean mg mb h₀) (hA : A.frames = some (env :: outer)) (hf : env.frame = some L) (hke : env.scope.kind = .function)
    (ho : K.lookup f = some ⟨oc, od, .func (fnOf name qual params body scope dV kV doc pm an cdv ct), osl⟩) (hcd : codeIn K cdv qual = true) (hroom : A.depth < recursionLimit)
    (hbind : BindsTo s (fnOf name qual params body scope dV kV doc pm an cdv ct) args binds) (hloc : ∀ y ∈ binds, scope.names.lookup y.1 = some .local)
    (h : ∀ g L' h₁, Fr h₀ L g m → Fr g L' h₁ (fun y => binds.reverse.lookup y) → News g L' h₁ news → Below A base (env :: outer) g → K.In g → Top p loose mean mg mb g → (∀ q ∈ news, q.1 < L') →
      wpAny (model P w) (A.deeper (envOf qual scope L' f cdv)) (execs body (envOf qual scope L' f cdv))
        (fun fl s' => LeaveK h₀ L m g R (match fl with | .ret v => v | _ => .none) s')
        (fun e s' => wpAny (model P w) (A.deeper (envOf qual scope L' f cdv)) (leaving (envOf qual scope L' f cdv) e) (fun _ s'' => R (.error e) s'') (fun e' s'' => R (.error e') s'') s')
        { s with heap := h₁, toks := s.toks + binds.length })
    (hco : scope.isCoroutine = false) (hgen : scope.isGenerator = false) (hk : scope.kind = .function)
    (hcell : ∀ x ∈ scope.names, x.2 ≠ .cell) : codeAny (model P w) A (.call (.ref f) args) R s :=
  callX_plain (cl := []) B F N T.nolimit hA hf hke ((X₀.keeps F.keep) _ _ ho) rfl (codeRec_of (X₀.keeps F.keep) hcd) hroom hbind hloc (fun g L' h₁ FG F' N' B' st lt => h g L' h₁ FG F' N' B' (X₀.keeps st) (T.keeps st) lt) hcell hco hgen hk
theorem code_frzC {env : Env} {outer : List Env} {R : Result → Shared → Prop} {name qual : Str} {params : Arguments} {body : List Stmt} {scope : Scope} {dV kV doc pm cdv ct oc : Value} {an od : Option Addr} {osl : Array (Option Value)} {f : Addr} {args : Args} {binds : List (Str × Value)}
    (B : Below A₀ base outer h₀) (F : Fr h₀ L s.heap m) (X₀ : K.In h₀) (N : News h₀ L s.heap news) (T : Top p loose mean mg mb h₀) (hA : A.frames = some (env :: outer)) (hf : env.frame = some L) (hke : env.scope.kind = .function)
    (ho : K.lookup f = some ⟨oc, od, .func (fnOf name qual params body scope dV kV doc pm an cdv ct), osl⟩) (hcd : codeIn K cdv qual = true) (hroom : A.depth < recursionLimit)
    (hbind : BindsTo s (fnOf name qual params body scope dV kV doc pm an cdv ct) args binds) (hkind : (binds.all fun y => scope.names.lookup y.1 == some .local || scope.names.lookup y.1 == some .cell) = true)
    (hnd : ((cellsFrom 0 scope.names []).map (·.1)).Nodup)
    (h : ∀ g L' h₁ tk cells, Fr h₀ L g m → Fr g L' h₁ (bindL (envOfC qual scope L' f cdv).kindOf binds fun _ => none) → News g L' h₁ (cells ++ []) →
      CellsAre (bindC (envOfC qual scope L' f cdv).kindOf binds fun _ => none) (cellsFrom (L' + 1) scope.names []) cells → Below A base (env :: outer) g → K.In g → Top p loose mean mg mb g → (∀ q ∈ news, g.get? q.1 = some q.2) →
      wpAny (model P w) (A.deeper (envOfC qual scope L' f cdv)) (execs body (envOfC qual scope L' f cdv))
        (fun fl s' => LeaveK h₀ L m g (Still h₀ L news R) (match fl with | .ret v => v | _ => .none) s')
        (fun e s' => wpAny (model P w) (A.deeper (envOfC qual scope L' f cdv)) (leaving (envOfC qual scope L' f cdv) e) (fun _ s'' => R (.error e) s'') (fun e' s'' => R (.error e') s'') s')
        { s with heap := h₁, toks := tk })
    (hco : scope.isCoroutine = false) (hgen : scope.isGenerator = false) (hk : scope.kind = .function) : codeAny (model P w) A (.call (.ref f) args) R s :=
  callX_cells B F N T.nolimit hA hf hke ((X₀.keeps F.keep) _ _ ho) rfl (codeRec_of (X₀.keeps F.keep) hcd) hroom hbind (kindsX hkind) hnd (fun g L' h₁ tk cells FG F' N' Y B' st lt =>
    rebase (cells := cells) (f := fun fl => match fl with | .ret v => v | _ => .none) F' N' B' (X₀.keeps st) (T.keeps st) lt (fun q hq => by
      obtain ⟨x, hx, e⟩ := ca_mem Y q hq
      rw [← e]
      exact Nat.le_trans (Nat.le_succ _) (cf_ge (L' + 1) scope.names (L' + 1) [] (Nat.le_refl _) (fun _ h => by cases h) x hx)) FG fun g' FG' F2 N2 B2 X2 T2 hn => h g' L' h₁ tk cells FG' F2 (by rw [List.append_nil]; exact N2) Y B2 X2 T2 hn) hco hgen hk
end
end
section
section
section V
variable {prog : Program} {w : World} {A : Around} {E : Value → Shared → Prop} {s : Shared} {env : Env} {h₀ : Heap} {body : List Stmt} {Q : Flow → Shared → Prop}
theorem go_list {elts : List Expr} {x1 : Nat} {pos : Pos} {I l T : Addr} {i : Nat} {Q : Unit → Shared → Prop} (hit : s.heap.IsListIter I l i) (hQ : Q () s) : wpAny (model prog w) A (letOwnedTupleGo (.Tuple elts x1 pos) (.ref I) (.ref T)) Q E s := by
  obtain ⟨o, ho, hc, hd⟩ := hit
  show wpAny _ _ (load I >>= _) _ _ _
  refine wpAny_bind (wpAny_load ho ?_)
  simp only [hc, hd]
  refine KFB.if_not (Bool.and_eq_false_imp.mpr fun h => absurd h (by decide)) ?_
  exact wpAny_pure hQ
end V
namespace HforAt_listT
noncomputable def Pre (prog : Program) (w : World) (A : Around) (E : Value → Shared → Prop) (s : Shared) (env : Env) (h₀ : Heap) (body : List Stmt) (Q : Flow → Shared → Prop) (D : Drawn → Prop) (elts : List Expr) (x1 : Nat) (tp : Pos) (ax : Addr) (lo : Obj) (vs : List Value) (n : Nat) (m₀ : Str → Option Value) (news : List (Addr × Obj)) (J : List Value → (Str → Option Value) → List (Addr × Obj) → Prop) : Prop :=
  (D s.drawn) → (A.handled = none) → (PassesOwn (model prog w) A env E) → (Fr h₀ env.locals s.heap m₀) → (News h₀ env.locals s.heap news) → (lo.cls = .type "list") → (lo.data = .seq vs.toArray n) → (∀ r m nw, J r m nw → (ax, lo) ∈ nw) → (J vs m₀ news) → (∀ v ∈ vs, ∃ T, v = Value.ref T) → (∀ v r m nw it I h tk d, J (v :: r) m nw → s.toks ≤ tk → D d → (∀ p ∈ nw, p.1 ≠ I) → it.cls = .type "list_iterator" → Fr h₀ env.locals h m → News h₀ env.locals h ((I, it) :: nw) →
      wpAny (model prog w) A (assign (.Tuple elts x1 tp) env v) (fun _ s₂ => wpAny (model prog w) A (execs body env) (TurnP D h₀ env.locals (J r) I it { s with heap := h, toks := tk, drawn := d } Q) E s₂) E { s with heap := h, toks := tk, drawn := d }) → (∀ m nw h tk d, J [] m nw → s.toks ≤ tk → D d → Fr h₀ env.locals h m → News h₀ env.locals h nw → Q .next { s with heap := h, toks := tk, drawn := d }) → ForAt prog w A env (.Tuple elts x1 tp) body [] Q E (.ref ax) s
noncomputable abbrev Dat : Type := Program × World × Around × (Value → Shared → Prop) × Shared × Env × Heap × (List Stmt) × (Flow → Shared → Prop) × (Drawn → Prop) × (List Expr) × Nat × Pos × Addr × Obj × (List Value) × Nat × (Str → Option Value) × (List (Addr × Obj)) × (List Value → (Str → Option Value) → List (Addr × Obj) → Prop)
noncomputable def d₀ : Dat := (default, wd, ⟨none, 0, none, none, 1⟩, (fun _ _ => True), ⟨{}, #[], {}, 1, {}⟩, default, {}, [], (fun _ _ => True), (fun _ => True), [], 0, default, (0 : Nat), default, [], 0, (fun _ => none), [], (fun _ _ _ => True))
@[irreducible] noncomputable def z₀ : Dat := eps d₀ fun z => ¬ Pre z.1 z.2.1 z.2.2.1 z.2.2.2.1 z.2.2.2.2.1 z.2.2.2.2.2.1 z.2.2.2.2.2.2.1 z.2.2.2.2.2.2.2.1 z.2.2.2.2.2.2.2.2.1 z.2.2.2.2.2.2.2.2.2.1 z.2.2.2.2.2.2.2.2.2.2.1 z.2.2.2.2.2.2.2.2.2.2.2.1 z.2.2.2.2.2.2.2.2.2.2.2.2.1 z.2.2.2.2.2.2.2.2.2.2.2.2.2.1 z.2.2.2.2.2.2.2.2.2.2.2.2.2.2.1 z.2.2.2.2.2.2.2.2.2.2.2.2.2.2.2.1 z.2.2.2.2.2.2.2.2.2.2.2.2.2.2.2.2.1 z.2.2.2.2.2.2.2.2.2.2.2.2.2.2.2.2.2.1 z.2.2.2.2.2.2.2.2.2.2.2.2.2.2.2.2.2.2.1 z.2.2.2.2.2.2.2.2.2.2.2.2.2.2.2.2.2.2.2
@[irreducible] noncomputable def prog : Program := z₀.1
@[irreducible] noncomputable def w : World := z₀.2.1
@[irreducible] noncomputable def A : Around := z₀.2.2.1
@[irreducible] noncomputable def E : Value → Shared → Prop := z₀.2.2.2.1
@[irreducible] noncomputable def s : Shared := z₀.2.2.2.2.1
@[irreducible] noncomputable def env : Env := z₀.2.2.2.2.2.1
@[irreducible] noncomputable def h₀ : Heap := z₀.2.2.2.2.2.2.1
@[irreducible] noncomputable def body : List Stmt := z₀.2.2.2.2.2.2.2.1
@[irreducible] noncomputable def Q : Flow → Shared → Prop := z₀.2.2.2.2.2.2.2.2.1
@[irreducible] noncomputable def D : Drawn → Prop := z₀.2.2.2.2.2.2.2.2.2.1
@[irreducible] noncomputable def elts : List Expr := z₀.2.2.2.2.2.2.2.2.2.2.1
@[irreducible] noncomputable def x1 : Nat := z₀.2.2.2.2.2.2.2.2.2.2.2.1
@[irreducible] noncomputable def tp : Pos := z₀.2.2.2.2.2.2.2.2.2.2.2.2.1
@[irreducible] noncomputable def ax : Addr := z₀.2.2.2.2.2.2.2.2.2.2.2.2.2.1
@[irreducible] noncomputable def lo : Obj := z₀.2.2.2.2.2.2.2.2.2.2.2.2.2.2.1
@[irreducible] noncomputable def vs : List Value := z₀.2.2.2.2.2.2.2.2.2.2.2.2.2.2.2.1
@[irreducible] noncomputable def n : Nat := z₀.2.2.2.2.2.2.2.2.2.2.2.2.2.2.2.2.1
@[irreducible] noncomputable def m₀ : Str → Option Value := z₀.2.2.2.2.2.2.2.2.2.2.2.2.2.2.2.2.2.1
@[irreducible] noncomputable def news : List (Addr × Obj) := z₀.2.2.2.2.2.2.2.2.2.2.2.2.2.2.2.2.2.2.1
@[irreducible] noncomputable def J : List Value → (Str → Option Value) → List (Addr × Obj) → Prop := z₀.2.2.2.2.2.2.2.2.2.2.2.2.2.2.2.2.2.2.2
theorem main : Pre prog w A E s env h₀ body Q D elts x1 tp ax lo vs n m₀ news J := by
  intro hD hh hE F N hc hd hm h0 hv turn done
  have hax := N _ (hm _ _ _ h0)
  have hl : s.heap.IsList ax vs.toArray := ⟨lo, hax.1, hc, n, hd⟩
  refine wpAny_pyIter_list hl ?_
  have hlt : ax < s.heap.objs.size := Heap.lt_size hax.1
  have hne : ax ≠ s.heap.objs.size := Nat.ne_of_lt hlt
  have hIn := next_is_new F
  have hIL : env.locals ≠ s.heap.objs.size := Nat.ne_of_lt F.ns.lt
  have isl : ∀ {h : Heap} {r m nw}, J r m nw → News h₀ env.locals h nw → h.IsList ax vs.toArray := fun hj N' => ⟨lo, (N' _ (hm _ _ _ hj)).1, hc, n, hd⟩
  refine codeAny_forLoop_any (R := fun r s' => match r with | .ok f => Q f s' | .error e => cameBackBy (model prog w) A env E e s')
    (fun k s' => ∃ h' tk d m' nw i, s' = { s with heap := h', toks := tk, drawn := d } ∧ s.toks ≤ tk ∧ D d ∧ h'.IsListIter s.heap.objs.size ax i ∧ Fr h₀ env.locals h' m' ∧ News h₀ env.locals h' nw ∧ (∀ p ∈ nw, p.1 ≠ s.heap.objs.size) ∧ J (vs.drop i) m' nw ∧ i ≤ vs.length ∧ k = vs.length + 1 - i)
    ?_ (vs.length + 1) ⟨_, s.toks, s.drawn, m₀, news, 0, rfl, Nat.le_refl _, hD, ⟨_, Heap.get?_push_size _ rfl, rfl, rfl⟩, F.push _, (fun p hp => ⟨Heap.get?_push_of_some _ (N p hp).1, (N p hp).2⟩), (fun p hp => Nat.ne_of_lt (Heap.lt_size (N p hp).1)), (by rw [List.drop_zero]; exact h0), Nat.zero_le _, rfl⟩
  rintro k s' ⟨h', tk, d, m', nw, i, rfl, htk, hdd, hit, F', N', hoff, hj, hi, rfl⟩
  have next : ∀ h₁ : Heap, Heap.ExtBut s.heap.objs.size h' h₁ → Fr h₀ env.locals h₁ m' ∧ News h₀ env.locals h₁ nw := fun h₁ hs₁ =>
    ⟨⟨F'.ns.at' fun o e => hs₁ _ o hIL e, fun b o e => hs₁ b o (fun q => by rw [q, hIn] at e; cases e) (F'.keep b o e), F'.above⟩, fun p hp => ⟨hs₁ _ _ (hoff p hp) (N' p hp).1, (N' p hp).2⟩⟩
  have hl' := isl hj N'
  by_cases hlt' : i < vs.length
  · refine wpAny_pyNext_list_item hit hl' (x := vs[i]) (by simp [hlt']) fun h₁ hit₁ hs₁ => ?_
    obtain ⟨F₁, N₁⟩ := next h₁ hs₁.extBut
    show wpAny _ _ _ _ _ _
    obtain ⟨T9, hT9⟩ := hv vs[i] (List.getElem_mem hlt')
    rw [hT9]
    refine go_list hit₁ ?_
    rw [← hT9]
    have hdrop : vs.drop i = vs[i] :: vs.drop (i + 1) := List.drop_eq_getElem_cons hlt'
    rw [hdrop] at hj
    obtain ⟨ito, hito, hitc, hitd⟩ := hit₁
    have N₂ : News h₀ env.locals h₁ ((s.heap.objs.size, ito) :: nw) := fun p hp => by
      rcases List.mem_cons.mp hp with rfl | hp
      · exact ⟨hito, Ne.symm hIL, hIn⟩
      · exact N₁ p hp
    have T := turn vs[i] (vs.drop (i + 1)) m' nw ito s.heap.objs.size h₁ tk d hj htk hdd hoff hitc F₁ N₂
    refine wpAny_passesOwn hE (wpAny_mono (wpAny_toks T) (fun _ s₂ p => ?_) fun _ _ e => e.2)
    refine wpAny_passesOwn hE (wpAny_mono (wpAny_toks p.2) (fun f s₃ q => ?_) fun _ _ e => e.2)
    have hle : tk ≤ s₃.toks := Nat.le_trans p.1 q.1
    have fin : (∃ h' tk' d' m' nw', s₃ = { ({ s with heap := h₁, toks := tk, drawn := d } : Shared) with heap := h', toks := tk', drawn := d' } ∧ D d' ∧ Fr h₀ env.locals h' m' ∧ News h₀ env.locals h' ((s.heap.objs.size, ito) :: nw') ∧ (∀ p ∈ nw', p.1 ≠ s.heap.objs.size) ∧ J (vs.drop (i + 1)) m' nw') →
        ∃ mm, mm < vs.length + 1 - i ∧ ∃ h' tk d m' nw i', s₃ = { s with heap := h', toks := tk, drawn := d } ∧ s.toks ≤ tk ∧ D d ∧ h'.IsListIter s.heap.objs.size ax i' ∧ Fr h₀ env.locals h' m' ∧ News h₀ env.locals h' nw ∧ (∀ p ∈ nw, p.1 ≠ s.heap.objs.size) ∧ J (vs.drop i') m' nw ∧ i' ≤ vs.length ∧ mm = vs.length + 1 - i' := by
      rintro ⟨h₄, tk₄, d₄, m₄, nw₄, rfl, dd₄, F₄, N₄, o₄, j₄⟩
      exact ⟨vs.length + 1 - (i + 1), by omega, h₄, tk₄, d₄, m₄, nw₄, i + 1, rfl, Nat.le_trans htk hle, dd₄, ⟨ito, (N₄ _ (.head _)).1, hitc, hitd⟩, F₄, fun p hp => N₄ p (.tail _ hp), o₄, j₄, hlt', rfl⟩
    cases f with
    | ret v => exact q.2
    | brk => exact q.2
    | next => exact fin q.2
    | cont => exact fin q.2
  · have hin : i = vs.length := by omega
    subst hin
    refine wpAny_pyNext_list_end hh hit hl' (by simp) fun h₁ he₁ => wpAny_execs_nil ?_
    obtain ⟨F₁, N₁⟩ := next h₁ he₁
    rw [List.drop_length] at hj
    exact done m' nw h₁ tk d hj htk hdd F₁ N₁
end HforAt_listT
section V
variable {prog : Program} {w : World} {A : Around} {E : Value → Shared → Prop} {s : Shared} {env : Env} {h₀ : Heap} {body : List Stmt} {Q : Flow → Shared → Prop}
theorem forAt_listT (D : Drawn → Prop) (hD : D s.drawn) {elts : List Expr} {x1 : Nat} {tp : Pos} {ax : Addr} {lo : Obj} {vs : List Value} {n : Nat} {m₀ : Str → Option Value} {news : List (Addr × Obj)} (J : List Value → (Str → Option Value) → List (Addr × Obj) → Prop)
    (hh : A.handled = none) (hE : PassesOwn (model prog w) A env E) (F : Fr h₀ env.locals s.heap m₀) (N : News h₀ env.locals s.heap news)
    (hc : lo.cls = .type "list") (hd : lo.data = .seq vs.toArray n) (hm : ∀ r m nw, J r m nw → (ax, lo) ∈ nw) (h0 : J vs m₀ news) (hv : ∀ v ∈ vs, ∃ T, v = Value.ref T)
    (turn : ∀ v r m nw it I h tk d, J (v :: r) m nw → s.toks ≤ tk → D d → (∀ p ∈ nw, p.1 ≠ I) → it.cls = .type "list_iterator" → Fr h₀ env.locals h m → News h₀ env.locals h ((I, it) :: nw) →
      wpAny (model prog w) A (assign (.Tuple elts x1 tp) env v) (fun _ s₂ => wpAny (model prog w) A (execs body env) (TurnP D h₀ env.locals (J r) I it { s with heap := h, toks := tk, drawn := d } Q) E s₂) E { s with heap := h, toks := tk, drawn := d })
    (done : ∀ m nw h tk d, J [] m nw → s.toks ≤ tk → D d → Fr h₀ env.locals h m → News h₀ env.locals h nw → Q .next { s with heap := h, toks := tk, drawn := d }) :
    ForAt prog w A env (.Tuple elts x1 tp) body [] Q E (.ref ax) s :=
  eps_allz (z := HforAt_listT.z₀) (P := fun z : HforAt_listT.Dat => HforAt_listT.Pre z.1 z.2.1 z.2.2.1 z.2.2.2.1 z.2.2.2.2.1 z.2.2.2.2.2.1 z.2.2.2.2.2.2.1 z.2.2.2.2.2.2.2.1 z.2.2.2.2.2.2.2.2.1 z.2.2.2.2.2.2.2.2.2.1 z.2.2.2.2.2.2.2.2.2.2.1 z.2.2.2.2.2.2.2.2.2.2.2.1 z.2.2.2.2.2.2.2.2.2.2.2.2.1 z.2.2.2.2.2.2.2.2.2.2.2.2.2.1 z.2.2.2.2.2.2.2.2.2.2.2.2.2.2.1 z.2.2.2.2.2.2.2.2.2.2.2.2.2.2.2.1 z.2.2.2.2.2.2.2.2.2.2.2.2.2.2.2.2.1 z.2.2.2.2.2.2.2.2.2.2.2.2.2.2.2.2.2.1 z.2.2.2.2.2.2.2.2.2.2.2.2.2.2.2.2.2.2.1 z.2.2.2.2.2.2.2.2.2.2.2.2.2.2.2.2.2.2.2) (by delta HforAt_listT.z₀; exact rfl) (by with_unfolding_all exact HforAt_listT.main) (prog, w, A, E, s, env, h₀, body, Q, D, elts, x1, tp, ax, lo, vs, n, m₀, news, J) hD hh hE F N hc hd hm h0 hv turn done
end V
end
end
section
theorem room_of {A : Around} {dp b : Nat} (h : dp ≤ b) (k : Nat) (e : A.depth = dp + k) (hk : k + b < 1000 := by decide) : A.depth < recursionLimit := by unfold recursionLimit; omega
theorem off_of {news : List (Addr × Obj)} {L d : Nat} (h : ∀ p ∈ news, @LT.lt Nat _ p.1 L) (hd : @LE.le Nat _ L d) : ∀ p ∈ news, p.1 ≠ d := fun p hp => Nat.ne_of_lt (Nat.lt_of_lt_of_le (h p hp) hd)
theorem le_of {x dp b b' : Nat} (k : Nat) (e : x = dp + k) (h : dp ≤ b) (hk : b + k ≤ b' := by decide) : x ≤ b' := by omega
theorem in_lit {prog : Program} {w : World} {A : Around} {s : Shared} {E Q : Value → Shared → Prop} {x y : Str} {t u : Tok} (b : Bool) (hb : (!(Builtin.Str.occurrences x y 0 x.length 1).isEmpty) = b) (h : Q (.bool b) s) : wpAny (model prog w) A (compareOp .In (.str y u) (.str x t)) Q E s := PyProof.Rows.in_str (by rw [hb]; exact h)
end
section
example : True := by
  k_with_none
  w_top off
  (k_with "ite" => (k_closed; (first | (refine ite_pos (by with_reducible assumption) ?_) | (refine ite_neg (by with_reducible assumption) ?_) | (refine ite_isFalse (by with_reducible assumption) ?_) | k_dflt (refine ite_pos (by decide) ?_) | k_dflt (refine ite_neg (by decide) ?_) | (refine ite_pos (by k_dec) ?_) | (refine ite_neg (by k_dec) ?_))))
  (k_with "k_room" => (first | exact room_of (by assumption) 0 rfl | exact room_of (by assumption) 1 rfl | exact room_of (by assumption) 2 rfl | exact room_of (by assumption) 3 rfl | exact room_of (by assumption) 4 rfl | exact room_of (by assumption) 5 rfl | exact room_of (by assumption) 6 rfl))
  (k_with "my enter" => ((first
    | (refine' code_def ?k1 ?k2 ?k3 ?k4 ?k5 ?kA ?kF ?kK ?k6 ?k7 ?k8 ?k9 ?kB ?_ ?c2 ?c3 ?c4 ?c5; (case kA => exact rfl); (case kF => exact rfl); (case kK => first | exact rfl | assumption); (case k1 => k_asm); (case k2 => k_asm); (case k3 => k_asm); (case k4 => k_asm); (case k5 => k_asm); (case k6 => k_is); (case k7 => k_is); (case k8 => k_room); (case k9 => first | exact BindsTo.of_eq rfl | exact binds_K (by k_in) rfl (by k_is) rfl rfl rfl | fail "k_enter: no rule for these arguments"); (case c5 => decide); (case kB => exact locs rfl); (case c2 => exact rfl); (case c3 => exact rfl); (case c4 => exact rfl); k_whole; intro g' L' h' FG' F' N' B' X' T'; (try dsimp only); (try k_lift B'); (try k_fold))
    | (refine' code_defC ?k1 ?k2 ?k3 ?k4 ?k5 ?kA ?kF ?kK ?k6 ?k7 ?k8 ?k9 ?kB ?kD ?_ ?c2 ?c3 ?c4; (case kA => exact rfl); (case kF => exact rfl); (case kK => first | exact rfl | assumption); (case k1 => k_asm); (case k2 => k_asm); (case k3 => k_asm); (case k4 => k_asm); (case k5 => k_asm); (case k6 => k_is); (case k7 => k_is); (case k8 => k_room); (case k9 => first | exact BindsTo.of_eq rfl | exact binds_K (by k_in) rfl (by k_is) rfl rfl rfl | fail "k_enter: no rule for these arguments"); (case kB => exact rfl); (case kD => decide +kernel); (case c2 => exact rfl); (case c3 => exact rfl); (case c4 => exact rfl); k_whole; intro g' L' h' tk' cells' FG' F' N' Y' B' X' T' l1; (try k_lt l1); k_cells Y'; (try simp only [List.cons_append, List.nil_append] at N'); (try dsimp only); (try k_lift B'); (try k_fold)))))
  (k_with "call builtin:len" => (((with_reducible show wpAny _ _ (call (Value.builtin _) [Value.str _ _]) _ _ _); refine len_str (by omega) ?_)))
  (k_with "exec For Name Name cons nil" => ((k_here; refine for_at ?_)))
  (k_with "SearchPost" => (((with_reducible show SearchPost _ _ _ _ _ _ _ _ _ (Flow.ret _) _); dsimp only [SearchPost])))
  (k_with "execs cons" => ((k_here; (with_reducible show wpAny _ _ _ _ _ (Shared.mk _ _ _ (_ + _) _)); refine gentoks 1 (by first | omega | (dsimp only; omega)) ?_; intro _ _)))
  (k_with "execs nil" => ((k_here; (with_reducible show wpAny _ _ _ _ _ (Shared.mk _ _ _ (_ + _) _)); refine gentoks 1 (by first | omega | (dsimp only; omega)) ?_; intro _ _)))
  (k_with "my sub" => (first | exact fun _ h => h | exact fun _ h => List.mem_cons_of_mem _ h | exact fun _ h => List.mem_cons_of_mem _ (List.mem_cons_of_mem _ h) | exact fun _ h => List.mem_cons_of_mem _ (List.mem_cons_of_mem _ (List.mem_cons_of_mem _ h))))
  (k_with "k_all" => (first | assumption | exact off_of (by assumption) (by omega)))
  (k_with "my le" => (first | exact le_of 0 rfl (by assumption) | exact le_of 1 rfl (by assumption) | exact le_of 2 rfl (by assumption) | exact le_of 3 rfl (by assumption) | exact le_of 6 rfl (by assumption) | exact le_of 4 rfl (by assumption) | exact le_of 5 rfl (by assumption)))
  trivial
noncomputable abbrev D1 : Str := Str.ofString "/usr/./lib/"
noncomputable abbrev D2 : Str := Str.ofString "/t[mp]"
noncomputable def folderF (y : Str) : Str := if y = D1 then Str.ofString "/usr/lib/" else Str.ofString "/t[mp]/"
noncomputable def hitM (module y : Str) : Bool := module == y || Txt.slice module none (some ((y.length : Int) + 1)) == y ++ Str.ofString "."
noncomputable def hitF (name y : Str) : Bool := Txt.slice name none (some ((folderF y).length : Int)) == folderF y
noncomputable def plainF (ms fs : List Str) (module : Str) (name : Option Str) : Int :=
  if (module == Str.ofString "<string>") = true then 1 else match name with
  | none => 1
  | some nm => if ms.any (hitM module) = true then 1 else if fs.any (hitF nm) = true then 1 else 0
theorem hitF1 (name : Str) : hitF name (Str.ofString "/usr/./lib/") = (Txt.slice name none (some ((9 : Nat) : Int)) == Str.ofString "/usr/lib/") := by
  have e : folderF (Str.ofString "/usr/./lib/") = Str.ofString "/usr/lib/" := if_pos rfl
  have l : (Str.ofString "/usr/lib/").length = 9 := by decide +kernel
  unfold hitF
  rw [e, l]
theorem hitF2 (name : Str) : hitF name (Str.ofString "/t[mp]") = (Txt.slice name none (some ((7 : Nat) : Int)) == Str.ofString "/t[mp]/") := by
  have e : folderF (Str.ofString "/t[mp]") = Str.ofString "/t[mp]/" := if_neg (by decide +kernel)
  have l : (Str.ofString "/t[mp]/").length = 7 := by decide +kernel
  unfold hitF
  rw [e, l]
theorem rep_lit {prog : Program} {w : World} {A : Around} {s : Shared} {Q E : Value → Shared → Prop} {x y z : Str} {t u v : Tok} (hu : 1 ≤ u) (hv : 1 ≤ v) (huv : u ≠ v) (hyz : (y == z) = false) (hx : x.length ≤ 1048576) (hz : z.length ≤ 14) {r : Str} (hr : Txt.replace x y z = r)
    (h : ∀ t k, Q (.str r t) { s with toks := k }) : wpAny (model prog w) A (call (.builtin "str.replace") [.str x t, .str y u, .str z v]) Q E s := by
  refine SC.replaceW (Nat.ne_of_gt hu) (Nat.ne_of_gt hv) huv hyz hx hz ?_
  intro t' k
  rw [hr]
  exact h _ _
example : True := by
  (k_with "call builtin:str.replace" => ((k_here; (refine rep_lit (by first | assumption | omega) (by first | exact Nat.succ_le_succ (Nat.zero_le _) | omega | (dsimp only; omega)) (by first | exact Nat.ne_of_lt (Nat.lt_succ_self _) | omega | (dsimp only; omega)) (by decide +kernel) (by decide +kernel) (by decide +kernel) (by k_dflt kxw_text) ?_); intro _ _)))
  trivial
namespace Hplain_con
noncomputable def Pre (w : World) (am : Addr) (af : Addr) (n1 : Nat) (n2 : Nat) (vs : List Value) (us : List Value) (ms : List Str) (fs : List Str) (news : List (Addr × Obj)) (module : Str) (name : Str) (t1 : Tok) (t2 : Tok) (cd : CD) : Prop :=
  ((am, lst vs n1) ∈ news) → ((af, lst us n2) ∈ news) → (StrsAre vs ms) → (StrsAre us fs) → (∀ x ∈ ms, Small x) → (∀ x ∈ fs, x = D1 ∨ x = D2) → (Small module) → (Small name) → cd.Ok 480 w 204 [.ref am, .ref af, .str module t1, .str name t2] news (fun v news' => news' = news ∧ ∃ t, v = .int (plainF ms fs module (some name)) t)
noncomputable abbrev Dat : Type := World × Addr × Addr × Nat × Nat × (List Value) × (List Value) × (List Str) × (List Str) × (List (Addr × Obj)) × Str × Str × Tok × Tok × CD
noncomputable def d₀ : Dat := (wd, (0 : Nat), (0 : Nat), 0, 0, [], [], [], [], [], (Str.ofString ""), (Str.ofString ""), (0 : Nat), (0 : Nat), CD.d)
@[irreducible] noncomputable def z₀ : Dat := eps d₀ fun z => ¬ Pre z.1 z.2.1 z.2.2.1 z.2.2.2.1 z.2.2.2.2.1 z.2.2.2.2.2.1 z.2.2.2.2.2.2.1 z.2.2.2.2.2.2.2.1 z.2.2.2.2.2.2.2.2.1 z.2.2.2.2.2.2.2.2.2.1 z.2.2.2.2.2.2.2.2.2.2.1 z.2.2.2.2.2.2.2.2.2.2.2.1 z.2.2.2.2.2.2.2.2.2.2.2.2.1 z.2.2.2.2.2.2.2.2.2.2.2.2.2.1 z.2.2.2.2.2.2.2.2.2.2.2.2.2.2
@[irreducible] noncomputable def w : World := z₀.1
@[irreducible] noncomputable def am : Addr := z₀.2.1
@[irreducible] noncomputable def af : Addr := z₀.2.2.1
@[irreducible] noncomputable def n1 : Nat := z₀.2.2.2.1
@[irreducible] noncomputable def n2 : Nat := z₀.2.2.2.2.1
@[irreducible] noncomputable def vs : List Value := z₀.2.2.2.2.2.1
@[irreducible] noncomputable def us : List Value := z₀.2.2.2.2.2.2.1
@[irreducible] noncomputable def ms : List Str := z₀.2.2.2.2.2.2.2.1
@[irreducible] noncomputable def fs : List Str := z₀.2.2.2.2.2.2.2.2.1
@[irreducible] noncomputable def news : List (Addr × Obj) := z₀.2.2.2.2.2.2.2.2.2.1
@[irreducible] noncomputable def module : Str := z₀.2.2.2.2.2.2.2.2.2.2.1
@[irreducible] noncomputable def name : Str := z₀.2.2.2.2.2.2.2.2.2.2.2.1
@[irreducible] noncomputable def t1 : Tok := z₀.2.2.2.2.2.2.2.2.2.2.2.2.1
@[irreducible] noncomputable def t2 : Tok := z₀.2.2.2.2.2.2.2.2.2.2.2.2.2.1
@[irreducible] noncomputable def cd : CD := z₀.2.2.2.2.2.2.2.2.2.2.2.2.2.2
theorem main : Pre w am af n1 n2 vs us ms fs news module name t1 t2 cd := by
  intro h1 h2 hv hu hms hfs hm hn hdp hun B F X N T hQ
  have hk : (⟨.function, cd.cnm, cd.cg, cd.cc, cd.cm⟩ : Scope).kind = .function := rfl
  refine wpAny_call ?_
  k_dflt (k_extra "my enter")
  k_steps
  all_goals (try k_data)
  · exact hQ _ _ _ _ ⟨rfl, _, congrArg (Value.int · _) (if_pos (by assumption)).symm⟩ (by assumption) (by assumption)
  · (rename Fr _ _ _ _ => lF'); (rename News _ _ _ _ => lN'); (rename (_ == _) = false => c0)
    have e0 : plainF ms fs module (some name) = if ms.any (hitM module) = true then 1 else if fs.any (hitF name) = true then 1 else 0 := if_neg (by rw [c0]; exact Bool.false_ne_true)
    rw [e0] at hQ
    with_unfolding_all refine forAt_search (fun y => hitM module y = false) [] (by rfl) (by rfl) (by rfl) lF' lN' h1 rfl rfl hv ?_ ?_
    all_goals clear lF' lN'
    · intro y t u it I h tk hy htk F1 N1
      have hys : y.length ≤ 64 := hms y hy
      have hgo : hitM module y = true → ms.any (hitM module) = true := fun q => List.any_eq_true.mpr ⟨y, hy, q⟩
      k_steps
      all_goals (try exact hQ _ _ _ _ ⟨rfl, _, congrArg (Value.int · _) (if_pos (hgo (by simp only [hitM, *, Bool.true_or, Bool.or_true]))).symm⟩ (by assumption) (cb_drop (by assumption) (by k_extra "my sub")))
      exact ⟨_, _, _, _, rfl, by assumption, by assumption, fun _ h => h, by simp only [hitM, *, Bool.or_false], fun z hz _ => by simp [hz]⟩
    · intro u h tk hP htk F1 N1
      have e1 : ms.any (hitM module) = false := by
        cases q : ms.any (hitM module) with
        | false => rfl
        | true => obtain ⟨y, hy, e⟩ := List.any_eq_true.mp q; rw [hP y hy] at e; cases e
      rw [e1, if_neg Bool.false_ne_true] at hQ
      have htk1 : 1 ≤ tk := Nat.le_trans (by dsimp only; omega) htk
      k_steps
      all_goals (try k_data)
      (rename Fr _ _ _ _ => lF'); (rename News _ _ _ _ => lN')
      with_unfolding_all refine forAt_search (fun y => hitF name y = false) [Str.ofString "folder"] (by rfl) (by rfl) (by rfl) lF' lN' h2 rfl rfl hu ?_ ?_
      all_goals clear lF' lN'
      · intro y t u it I h tk hy htk F1 N1
        have hgo : hitF name y = true → fs.any (hitF name) = true := fun q => List.any_eq_true.mpr ⟨y, hy, q⟩
        have htk2 : 1 ≤ tk := Nat.le_trans (by dsimp only; omega) htk
        rcases hfs y hy with rfl | rfl
        all_goals (try unfold D1 at F1 hgo); all_goals (try unfold D2 at F1 hgo)
        all_goals k_steps
        all_goals (try exact hQ _ _ _ _ ⟨rfl, _, congrArg (Value.int · _) (if_pos (hgo (by simp only [hitF1, hitF2, *]))).symm⟩ (by assumption) (cb_drop (by assumption) (by k_extra "my sub")))
        all_goals exact ⟨_, _, _, _, rfl, by assumption, by assumption, fun _ h => h, by simp only [hitF1, hitF2, *], fun z hz hc => by
          have hz' : z ≠ Str.ofString "folder" := fun e => by subst e; simp at hc
          simp only [if_neg hz, if_neg hz', hc, Bool.false_eq_true, if_false]⟩
      · intro u h tk hP htk F1 N1
        have e2 : fs.any (hitF name) = false := by
          cases q : fs.any (hitF name) with
          | false => rfl
          | true => obtain ⟨y, hy, e⟩ := List.any_eq_true.mp q; rw [hP y hy] at e; cases e
        rw [e2, if_neg Bool.false_ne_true] at hQ
        k_steps
        exact hQ _ _ _ _ ⟨rfl, _, rfl⟩ (by assumption) (by assumption)
end Hplain_con
theorem plain_con (w : World) (am af : Addr) (n1 n2 : Nat) (vs us : List Value) (ms fs : List Str) (news : List (Addr × Obj)) (module name : Str) (t1 t2 : Tok)
    (h1 : (am, lst vs n1) ∈ news) (h2 : (af, lst us n2) ∈ news) (hv : StrsAre vs ms) (hu : StrsAre us fs) (hms : ∀ x ∈ ms, Small x) (hfs : ∀ x ∈ fs, x = D1 ∨ x = D2) (hm : Small module) (hn : Small name) :
    Con 480 w 204 [.ref am, .ref af, .str module t1, .str name t2] news (fun v news' => news' = news ∧ ∃ t, v = .int (plainF ms fs module (some name)) t) :=
  con_of fun c => eps_allz (z := Hplain_con.z₀) (P := fun z : Hplain_con.Dat => Hplain_con.Pre z.1 z.2.1 z.2.2.1 z.2.2.2.1 z.2.2.2.2.1 z.2.2.2.2.2.1 z.2.2.2.2.2.2.1 z.2.2.2.2.2.2.2.1 z.2.2.2.2.2.2.2.2.1 z.2.2.2.2.2.2.2.2.2.1 z.2.2.2.2.2.2.2.2.2.2.1 z.2.2.2.2.2.2.2.2.2.2.2.1 z.2.2.2.2.2.2.2.2.2.2.2.2.1 z.2.2.2.2.2.2.2.2.2.2.2.2.2.1 z.2.2.2.2.2.2.2.2.2.2.2.2.2.2) (by delta Hplain_con.z₀; exact rfl) (by with_unfolding_all exact Hplain_con.main) (w, am, af, n1, n2, vs, us, ms, fs, news, module, name, t1, t2, c) h1 h2 hv hu hms hfs hm hn
theorem plain_con0 (w : World) (am af : Addr) (ms fs : List Str) (news : List (Addr × Obj)) (module : Str) (t1 : Tok) (hm : Small module) :
    Con 480 w 204 [.ref am, .ref af, .str module t1, .none] news (fun v news' => news' = news ∧ ∃ t, v = .int (plainF ms fs module none) t) := by
  intro dp un hdp hun gd cn cs a ccd cl outer A₀ base h₀ L m s Q E mean mg mb B F X N T hk hQ
  have e : plainF ms fs module none = 1 := by unfold plainF; split <;> rfl
  rw [e] at hQ
  refine wpAny_call ?_
  k_dflt (k_extra "my enter")
  k_steps
  all_goals (try k_data)
  all_goals exact hQ _ _ _ _ ⟨rfl, _, rfl⟩ (by assumption) (by assumption)
end
section
example : True := by
  k_with_none
  w_top off
  (k_with "ite" => (k_closed; (first | (refine ite_pos (by with_reducible assumption) ?_) | (refine ite_neg (by with_reducible assumption) ?_) | (refine ite_isFalse (by with_reducible assumption) ?_) | k_dflt (refine ite_pos (by decide) ?_) | k_dflt (refine ite_neg (by decide) ?_) | (refine ite_pos (by k_dec) ?_) | (refine ite_neg (by k_dec) ?_))))
  (k_with "k_room" => (first | exact room_of (by assumption) 0 rfl | exact room_of (by assumption) 1 rfl | exact room_of (by assumption) 2 rfl | exact room_of (by assumption) 3 rfl | exact room_of (by assumption) 4 rfl | exact room_of (by assumption) 5 rfl | exact room_of (by assumption) 6 rfl))
  (k_with "my enter" => ((first
    | (refine' code_def ?k1 ?k2 ?k3 ?k4 ?k5 ?kA ?kF ?kK ?k6 ?k7 ?k8 ?k9 ?kB ?_ ?c2 ?c3 ?c4 ?c5; (case kA => exact rfl); (case kF => exact rfl); (case kK => first | exact rfl | assumption); (case k1 => k_asm); (case k2 => k_asm); (case k3 => k_asm); (case k4 => k_asm); (case k5 => k_asm); (case k6 => k_is); (case k7 => k_is); (case k8 => k_room); (case k9 => first | exact BindsTo.of_eq rfl | exact binds_K (by k_in) rfl (by k_is) rfl rfl rfl | fail "k_enter: no rule for these arguments"); (case c5 => decide); (case kB => exact locs rfl); (case c2 => exact rfl); (case c3 => exact rfl); (case c4 => exact rfl); k_whole; intro g' L' h' FG' F' N' B' X' T'; (try dsimp only); (try k_lift B'); (try k_fold))
    | (refine' code_defC ?k1 ?k2 ?k3 ?k4 ?k5 ?kA ?kF ?kK ?k6 ?k7 ?k8 ?k9 ?kB ?kD ?_ ?c2 ?c3 ?c4; (case kA => exact rfl); (case kF => exact rfl); (case kK => first | exact rfl | assumption); (case k1 => k_asm); (case k2 => k_asm); (case k3 => k_asm); (case k4 => k_asm); (case k5 => k_asm); (case k6 => k_is); (case k7 => k_is); (case k8 => k_room); (case k9 => first | exact BindsTo.of_eq rfl | exact binds_K (by k_in) rfl (by k_is) rfl rfl rfl | fail "k_enter: no rule for these arguments"); (case kB => exact rfl); (case kD => decide +kernel); (case c2 => exact rfl); (case c3 => exact rfl); (case c4 => exact rfl); k_whole; intro g' L' h' tk' cells' FG' F' N' Y' B' X' T' l1; (try k_lt l1); k_cells Y'; (try simp only [List.cons_append, List.nil_append] at N'); (try dsimp only); (try k_lift B'); (try k_fold)))))
  (k_with "call builtin:len" => (((with_reducible show wpAny _ _ (call (Value.builtin _) [Value.str _ _]) _ _ _); refine len_str (by omega) ?_)))
  (k_with "exec For Name Name cons nil" => ((k_here; refine for_at ?_)))
  (k_with "SearchPost" => (((with_reducible show SearchPost _ _ _ _ _ _ _ _ _ (Flow.ret _) _); dsimp only [SearchPost])))
  (k_with "execs cons" => ((k_here; (with_reducible show wpAny _ _ _ _ _ (Shared.mk _ _ _ (_ + _) _)); refine gentoks 1 (by first | omega | (dsimp only; omega)) ?_; intro _ _)))
  (k_with "execs nil" => ((k_here; (with_reducible show wpAny _ _ _ _ _ (Shared.mk _ _ _ (_ + _) _)); refine gentoks 1 (by first | omega | (dsimp only; omega)) ?_; intro _ _)))
  (k_with "my sub" => (first | exact fun _ h => h | exact fun _ h => List.mem_cons_of_mem _ h | exact fun _ h => List.mem_cons_of_mem _ (List.mem_cons_of_mem _ h) | exact fun _ h => List.mem_cons_of_mem _ (List.mem_cons_of_mem _ (List.mem_cons_of_mem _ h))))
  (k_with "k_all" => (exact off_of (by assumption) (by omega)))
  (k_with "my le" => (first | exact le_of 0 rfl (by assumption) | exact le_of 1 rfl (by assumption) | exact le_of 2 rfl (by assumption) | exact le_of 3 rfl (by assumption) | exact le_of 6 rfl (by assumption) | exact le_of 4 rfl (by assumption) | exact le_of 5 rfl (by assumption)))
  trivial
theorem cend {h₀ : Heap} {L I C D : Addr} {m : Str → Option Value} {s₁ : Shared} {oI oC oD : Obj} {S : List (Addr × Obj) → Prop} {rest : Value → List (Addr × Obj) → Prop} {y : Value} {h' : Heap} {tk : Nat} {news' : List (Addr × Obj)}
    (F : Fr h₀ L h' m) (N : News h₀ L h' ((I, oI) :: (C, oC) :: (D, oD) :: news')) (off : LCg.Off3 I C D news') (hS : S news') (r : rest y news') :
    LCg.CompEnd h₀ L m s₁ I oI C oC D oD S rest y { s₁ with heap := h', toks := tk } := LCg.CompEnd.intro F N news' (fun _ h => h) off hS r
example : True := by
  (k_with "CompEnd" => ((k_here; refine cend (by assumption) (by assumption) (by first | assumption | (simp only [LCg.Off3, and_true]; assumption)) (by lcg_src) ?_)))
  (k_with "TurnV" => (fail "stop"))
  trivial
theorem sub_swap {α : Type} {a b c : α} {r : List α} : ∀ p ∈ b :: a :: r, p ∈ a :: b :: c :: r := fun p hp => by
  rcases List.mem_cons.mp hp with rfl | hp
  · exact .tail _ (.head _)
  · rcases List.mem_cons.mp hp with rfl | hp
    · exact .head _
    · exact .tail _ (.tail _ (.tail _ hp))
noncomputable abbrev PL := Str.ofString "places"
/-- what the list of places holds: one place or none -/
inductive Pl1 : List Value → Option Nat → Prop
  | none : Pl1 [] none
  | one (p : Nat) (t : Tok) (k : Int) (e : k = (p : Int)) : Pl1 [.int k t] (some p)
noncomputable def innerF (y : Str) : Str := if (Txt.item y 0 == Str.ofString "[") = true then Txt.slice y (some 1) (some (-1)) else Txt.item y (-1)
noncomputable def stepF (name : Str) (q : Option Nat) (y : Str) : Option Nat := match q with
  | none => none
  | some p => if (p : Int) < (name.length : Int) ∧ (Builtin.Str.occurrences (innerF y) (Txt.item name p) 0 (innerF y).length 1).isEmpty = false then some (p + 1) else none
noncomputable def takesF (cs : List Str) (hasStar : Bool) (name : Str) : Bool :=
  if hasStar then (cs.foldl (stepF name) (some 0)).isSome else cs.foldl (stepF name) (some 0) == some name.length
theorem fold_none (name : Str) : ∀ cs : List Str, cs.foldl (stepF name) none = none
  | [] => rfl
  | _ :: cs => fold_none name cs
theorem step_le {name y : Str} {p n : Nat} (h : stepF name (some p) y = some n) : n ≤ name.length := by
  by_cases c : (p : Int) < (name.length : Int) ∧ (Builtin.Str.occurrences (innerF y) (Txt.item name p) 0 (innerF y).length 1).isEmpty = false
  · rw [show stepF name (some p) y = some (p + 1) from if_pos c] at h; cases h; omega
  · rw [show stepF name (some p) y = none from if_neg c] at h; cases h
noncomputable def TJ (L1 : Nat) (oB : Obj) (news : List (Addr × Obj)) (cs0 : List Str) (hasStar : Bool) (star name : Str) (r : List Value) (val : Value) (nw : List (Addr × Obj)) : Prop :=
  ∃ pl pvs k oi, nw = (pl, W.listOf (List.toArray pvs) k) :: (L1 + 1 + 1, oi) :: (L1 + 1, oB) :: news ∧ val = .ref pl ∧ (∃ v₀, oi.data = .cell v₀) ∧ (@Ne Nat pl (L1 + 1 + 1)) ∧ (@Ne Nat pl (L1 + 1)) ∧
    ((∃ cs1 q, Pl1 pvs q ∧ StrsAre r (cs1 ++ if hasStar then [star] else []) ∧ (∀ x ∈ cs1, x ∈ cs0) ∧ (∀ p, q = some p → p ≤ name.length) ∧ cs1.foldl (stepF name) q = cs0.foldl (stepF name) (some 0)) ∨
     (r = [] ∧ ∃ ns, IntsAre pvs ns ∧ pvs.length ≤ 66 ∧ (ns.any fun x => x == (name.length : Int)) = takesF cs0 hasStar name))
theorem sub2 {α : Type} {a x b c : α} {r : List α} : ∀ p ∈ b :: a :: r, p ∈ a :: x :: b :: c :: r := fun p hp => by
  rcases List.mem_cons.mp hp with rfl | hp
  · exact .tail _ (.tail _ (.head _))
  · rcases List.mem_cons.mp hp with rfl | hp
    · exact .head _
    · exact .tail _ (.tail _ (.tail _ (.tail _ hp)))
theorem nwI {l' I L1 : Nat} {o oi oB : Obj} {news : List (Addr × Obj)} (h : @Ne Nat l' I) (o2 : @Ne Nat (L1 + 1 + 1) I) (o3 : @Ne Nat (L1 + 1) I) (hn : ∀ p ∈ news, p.1 ≠ I) :
    ∀ p ∈ ((l', o) : Addr × Obj) :: (L1 + 1 + 1, oi) :: (L1 + 1, oB) :: news, p.1 ≠ I := by
  intro p hp
  rcases List.mem_cons.mp hp with rfl | hp
  · exact h
  rcases List.mem_cons.mp hp with rfl | hp
  · exact o2
  rcases List.mem_cons.mp hp with rfl | hp
  · exact o3
  · exact hn p hp
theorem step_y1 {name y : Str} {p : Nat} (c0 : (Txt.item y 0 == Str.ofString "[") = true) (c1 : (p : Int) < (name.length : Int)) (c2 : (Builtin.Str.occurrences (Txt.slice y (some 1) (some (-1))) (Txt.item name p) 0 (Txt.slice y (some 1) (some (-1))).length 1).isEmpty = false) :
    stepF name (some p) y = some (p + 1) := by
  have e : innerF y = Txt.slice y (some 1) (some (-1)) := if_pos c0
  unfold stepF; rw [e]; exact if_pos ⟨c1, c2⟩
theorem step_n1 {name y : Str} {p : Nat} (c0 : (Txt.item y 0 == Str.ofString "[") = true) (c2 : (Builtin.Str.occurrences (Txt.slice y (some 1) (some (-1))) (Txt.item name p) 0 (Txt.slice y (some 1) (some (-1))).length 1).isEmpty = true) :
    stepF name (some p) y = none := by
  have e : innerF y = Txt.slice y (some 1) (some (-1)) := if_pos c0
  unfold stepF; rw [e]; exact if_neg fun h => by rw [c2] at h; cases h.2
theorem step_y2 {name y : Str} {p : Nat} (c0 : (Txt.item y 0 == Str.ofString "[") = false) (c1 : (p : Int) < (name.length : Int)) (c2 : (Builtin.Str.occurrences (Txt.item y (-1)) (Txt.item name p) 0 (Txt.item y (-1)).length 1).isEmpty = false) :
    stepF name (some p) y = some (p + 1) := by
  have e : innerF y = Txt.item y (-1) := if_neg (by rw [c0]; exact Bool.false_ne_true)
  unfold stepF; rw [e]; exact if_pos ⟨c1, c2⟩
theorem step_n2 {name y : Str} {p : Nat} (c0 : (Txt.item y 0 == Str.ofString "[") = false) (c2 : (Builtin.Str.occurrences (Txt.item y (-1)) (Txt.item name p) 0 (Txt.item y (-1)).length 1).isEmpty = true) :
    stepF name (some p) y = none := by
  have e : innerF y = Txt.item y (-1) := if_neg (by rw [c0]; exact Bool.false_ne_true)
  unfold stepF; rw [e]; exact if_neg fun h => by rw [c2] at h; cases h.2
theorem step_ge {name y : Str} {p : Nat} (c1 : ¬ (p : Int) < (name.length : Int)) : stepF name (some p) y = none := if_neg fun h => c1 h.1
theorem tj_next {L1 : Nat} {oB : Obj} {news : List (Addr × Obj)} {cs0 cs2 : List Str} {hasStar : Bool} {star name y : Str} {r pvs : List Value} {pl k : Nat} {oi : Obj} {q q' : Option Nat} {v₀ : Option Value}
    (d : oi.data = .cell v₀) (h1 : @Ne Nat pl (L1 + 1 + 1)) (h2 : @Ne Nat pl (L1 + 1)) (hq : Pl1 pvs q') (hs : stepF name q y = q') (hr' : StrsAre r (cs2 ++ if hasStar then [star] else [])) (hc : ∀ x ∈ y :: cs2, x ∈ cs0)
    (hf : (y :: cs2).foldl (stepF name) q = cs0.foldl (stepF name) (some 0)) (hqn : ∀ p, q = some p → p ≤ name.length) :
    TJ L1 oB news cs0 hasStar star name r (.ref pl) ((pl, W.listOf (List.toArray pvs) k) :: (L1 + 1 + 1, oi) :: (L1 + 1, oB) :: news) := by
  refine ⟨_, _, _, _, rfl, rfl, ⟨_, d⟩, h1, h2, .inl ⟨cs2, q', hq, hr', fun x hx => hc x (.tail _ hx), ?_, ?_⟩⟩
  · intro p e
    subst e
    cases q with
    | none => cases hs
    | some p0 => exact step_le hs
  · rw [← hf, List.foldl_cons, hs]
theorem keys_has (p n : Nat) (h : p ≤ n) : ((rangeKs (p : Int) ((n : Int) + 1 - (p : Int)).toNat).any fun x => x == (n : Int)) = true := by
  refine List.any_eq_true.mpr ⟨(n : Int), ?_, by simp⟩
  unfold rangeKs
  exact List.mem_map.mpr ⟨n - p, List.mem_range.mpr (by omega), by omega⟩
theorem tj_star {L1 : Nat} {oB : Obj} {news : List (Addr × Obj)} {cs0 : List Str} {star name : Str} {pvs : List Value} {pl k : Nat} {oi : Obj} {q : Option Nat} {v₀ : Option Value} {ns : List Int}
    (d : oi.data = .cell v₀) (h1 : @Ne Nat pl (L1 + 1 + 1)) (h2 : @Ne Nat pl (L1 + 1)) (hi : IntsAre pvs ns) (hl : pvs.length ≤ 66) (hc : (ns.any fun x => x == (name.length : Int)) = q.isSome) (hf : q = cs0.foldl (stepF name) (some 0)) :
    TJ L1 oB news cs0 true star name [] (.ref pl) ((pl, W.listOf (List.toArray pvs) k) :: (L1 + 1 + 1, oi) :: (L1 + 1, oB) :: news) :=
  ⟨_, _, _, _, rfl, rfl, ⟨_, d⟩, h1, h2, .inr ⟨rfl, _, hi, hl, by rw [hc, hf]; rfl⟩⟩
namespace Htakes_con
noncomputable def Pre (w : World) (ap : Addr) (n1 : Nat) (vs : List Value) (cs0 : List Str) (news : List (Addr × Obj)) (star : Str) (name : Str) (t1 : Tok) (t2 : Tok) (cd : CD) : Prop :=
  ∀ (hasStar : Bool), ((ap, lst vs n1) ∈ news) → (StrsAre vs (cs0 ++ if hasStar then [star] else [])) → (∀ x ∈ cs0, Small x ∧ (x == star) = false ∧ 1 ≤ x.length) → (Small star) → (Small name) → cd.Ok 480 w 219 [.ref ap, .str star t1, .str name t2] news (fun v news' => news' = news ∧ v = .bool (takesF cs0 hasStar name))
noncomputable abbrev Dat : Type := World × Addr × Nat × (List Value) × (List Str) × (List (Addr × Obj)) × Str × Str × Tok × Tok × CD
noncomputable def d₀ : Dat := (wd, (0 : Nat), 0, [], [], [], (Str.ofString ""), (Str.ofString ""), (0 : Nat), (0 : Nat), CD.d)
@[irreducible] noncomputable def z₀ : Dat := eps d₀ fun z => ¬ Pre z.1 z.2.1 z.2.2.1 z.2.2.2.1 z.2.2.2.2.1 z.2.2.2.2.2.1 z.2.2.2.2.2.2.1 z.2.2.2.2.2.2.2.1 z.2.2.2.2.2.2.2.2.1 z.2.2.2.2.2.2.2.2.2.1 z.2.2.2.2.2.2.2.2.2.2
@[irreducible] noncomputable def w : World := z₀.1
@[irreducible] noncomputable def ap : Addr := z₀.2.1
@[irreducible] noncomputable def n1 : Nat := z₀.2.2.1
@[irreducible] noncomputable def vs : List Value := z₀.2.2.2.1
@[irreducible] noncomputable def cs0 : List Str := z₀.2.2.2.2.1
@[irreducible] noncomputable def news : List (Addr × Obj) := z₀.2.2.2.2.2.1
@[irreducible] noncomputable def star : Str := z₀.2.2.2.2.2.2.1
@[irreducible] noncomputable def name : Str := z₀.2.2.2.2.2.2.2.1
@[irreducible] noncomputable def t1 : Tok := z₀.2.2.2.2.2.2.2.2.1
@[irreducible] noncomputable def t2 : Tok := z₀.2.2.2.2.2.2.2.2.2.1
@[irreducible] noncomputable def cd : CD := z₀.2.2.2.2.2.2.2.2.2.2
@[irreducible] noncomputable def ent : (B : Heap → Addr → Heap → Prop) ×' ((∀ g L h, B g L h) → Pre w ap n1 vs cs0 news star name t1 t2 cd) := by
  apply PSigma.mk
  intro hB
  intro hasStar h1 hv hcs hm hn hdp hun B F X N T hQ
  have hk : (⟨.function, cd.cnm, cd.cg, cd.cc, cd.cm⟩ : Scope).kind = .function := rfl
  refine wpAny_call ?_
  k_dflt (refine' code_defC ?k1 ?k2 ?k3 ?k4 ?k5 ?kA ?kF ?kK ?k6 ?k7 ?k8 ?k9 ?kB ?kD ?_ ?c2 ?c3 ?c4; (case kA => exact rfl); (case kF => exact rfl); (case kK => first | exact rfl | assumption); (case k1 => k_asm); (case k2 => k_asm); (case k3 => k_asm); (case k4 => k_asm); (case k5 => k_asm); (case k6 => k_is); (case k7 => k_is); (case k8 => k_room); (case k9 => first | exact BindsTo.of_eq rfl | exact binds_K (by k_in) rfl (by k_is) rfl rfl rfl | fail "k_enter: no rule for these arguments"); (case kB => exact rfl); (case kD => decide +kernel); (case c2 => exact rfl); (case c3 => exact rfl); (case c4 => exact rfl); k_whole; intro g1 L1 hp1 tkc cells1 FG1 F1 N1 Y1 B1 X1 T1 l1)
  clear hk
  revert hasStar h1 hv hcs hm hn hdp hun B F X N T hQ tkc cells1 FG1 F1 N1 Y1 B1 X1 T1 l1
  exact hB g1 L1 hp1
noncomputable abbrev Dat₂ : Type := Heap × Addr × Heap
@[irreducible] noncomputable def z₂ : Dat₂ := eps ({}, (0 : Nat), {}) fun z => ¬ ent.1 z.1 z.2.1 z.2.2
@[irreducible] noncomputable def g1 : Heap := z₂.1
@[irreducible] noncomputable def L1 : Addr := z₂.2.1
@[irreducible] noncomputable def hp1 : Heap := z₂.2.2
theorem body : ent.1 g1 L1 hp1 := by
  delta ent
  intro hasStar h1 hv hcs hm hn hdp hun B F X N T hQ tkc cells1 FG1 F1 N1 Y1 B1 X1 T1 l1
  have hk : (⟨.function, cd.cnm, cd.cg, cd.cc, cd.cm⟩ : Scope).kind = .function := rfl
  obtain ⟨oA, oB, hE, dA, dB⟩ := CellsAre.two Y1
  subst hE
  clear Y1
  simp only [List.cons_append, List.nil_append] at N1
  have dA' : oA.data = .cell none := dA
  have dB' : oB.data = .cell (some (.str name t2)) := dB
  clear dA dB
  k_steps
  all_goals (try k_data)
  (rename Fr _ _ _ _ => lF'); (rename News _ _ _ _ => lN'); (rename _ ∧ _ ∧ AllLt _ _ => hl3)
  with_unfolding_all refine' forAt_var (D := fun d => d = cd.s.drawn) (y := PL) (lo := lst vs n1) (ax := ap) (vs := vs) (n := n1) (J := TJ L1 oB news cs0 hasStar star name) ?hD ?hyx ?hh ?hx ?hp ?F ?N ?hc ?hd ?hm ?hv ?h0 ?turn ?done ?hE
  case F => exact lF'
  case N => exact lN'
  case hD => exact rfl
  case hyx => decide
  case hh => exact rfl
  case hx => exact rfl
  case hp => exact rfl
  case hc => exact rfl
  case hd => exact rfl
  case hv => exact rfl
  case hE => passes_own
  · rintro r val nw ⟨pl, pvs, k, oi, rfl, _⟩
    exact .tail _ (.tail _ (.tail _ h1))
  · exact ⟨_, [.int 0 _], _, _, rfl, rfl, ⟨_, dA'⟩, (by have := hl3.1; omega), (by have := hl3.1; omega), .inl ⟨cs0, some 0, .one 0 _ _ rfl, hv, fun _ h => h, fun p e => by cases e; exact Nat.zero_le _, rfl⟩⟩
  · rintro v r val nw it I h tk d ⟨pl, pvs, k, oi, rfl, rfl, ⟨v₀, dI⟩, hpl1, hpl2, ⟨cs1, q, hq, hr, hcs1, hqn, hfold⟩ | ⟨hr0, _⟩⟩ htk rfl hoff hic F2 N2
    · clear lF' lN' hl3
      have hlen : name.length < 2 ^ 62 := by omega
      have htk2 : 1 ≤ tk := Nat.le_trans (by dsimp only; omega) htk
      have hss : (star == star) = true := by simp
      have o1 : @Ne Nat pl I := hoff _ (.head _)
      have o2 : @Ne Nat (L1 + 1 + 1) I := hoff _ (.tail _ (.head _))
      have o3 : @Ne Nat (L1 + 1) I := hoff _ (.tail _ (.tail _ (.head _)))
      have hoffn : ∀ p ∈ news, p.1 ≠ I := fun p hp => hoff _ (.tail _ (.tail _ (.tail _ hp)))
      cases cs1 with
      | nil =>
        cases hasStar with
        | false => cases hr
        | true =>
          simp only [if_true, List.nil_append] at hr
          cases hr with
          | cons y ty hr' =>
          cases hr'
          cases hq with
          | none =>
            k_steps
            (rename Fr _ _ _ _ => lF'); (rename News _ _ _ _ => lN'); (rename _ ∧ _ ∧ _ ∧ _ ∧ _ ∧ AllLt _ _ => hl)
            exact ⟨_, _, _, _, _, _, rfl, rfl, lF', cb_drop lN' sub2, nwI (by have := hl.2.1; omega) o2 o3 hoffn, rfl, tj_star dI (by have := hl.2.2.2.1; omega) (by have := hl.2.2.2.2.1; omega) .nil (by decide) rfl hfold, fun z e1 e2 => by simp only [if_neg e1, if_neg e2]⟩
          | one p tp kk ek =>
            subst ek
            have hp : p ≤ name.length := hqn p rfl
            k_steps
            · exact absurd (by assumption : decide ([(p : Int)] = []) = true) (by simp)
            · (rename IsRange _ _ _ _ _ _ _ _ => hR); (rename Fr _ _ _ _ => lF'); (rename News _ _ _ _ => lN')
              refine kll_range (by rfl) lF' lN' hR (small_one (by omega) (by omega) (by omega) (by omega)) (rangeSize_nat _ _) (by omega) ?_
              intro D us c h5 tk5 F5 N5 lt5 hI5
              have e1 := IntsAre.length hI5
              k_steps
              (rename Fr _ _ _ _ => lF'); (rename News _ _ _ _ => lN')
              exact ⟨_, _, _, _, _, _, rfl, rfl, lF', cb_drop lN' sub2, nwI (Ne.symm (Nat.ne_of_lt (lt5 _ (.tail _ (.head _))))) o2 o3 hoffn, rfl, tj_star dI (Ne.symm (Nat.ne_of_lt (lt5 _ (.tail _ (.tail _ (.tail _ (.head _))))))) (Ne.symm (Nat.ne_of_lt (lt5 _ (.tail _ (.tail _ (.tail _ (.tail _ (.head _)))))))) hI5 (by rw [e1, rangeKs_length]; omega) (by rename _ = (p : Int) => eM; rw [eM]; exact keys_has _ _ hp) hfold, fun z e1 e2 => by simp only [if_neg e1, if_neg e2]⟩
      | cons y cs2 =>
        simp only [List.cons_append] at hr
        cases hr with
        | cons y ty hr' =>
        obtain ⟨hy, hys, hy1⟩ := hcs y (hcs1 y (.head _))
        cases hq with
        | none =>
          k_steps
          all_goals (rename Fr _ _ _ _ => lF'); (rename News _ _ _ _ => lN')
          all_goals (rename _ ∧ _ ∧ _ ∧ _ ∧ LCg.Off1 _ _ => ho1)
          all_goals exact ⟨_, _, _, _, _, _, rfl, rfl, lF', cb_drop lN' sub_swap, nwI (Ne.symm ho1.1) o2 o3 hoffn, rfl, tj_next (by assumption) (Ne.symm ho1.2.2.1) (Ne.symm ho1.2.2.2.1) .none rfl hr' hcs1 hfold hqn, fun z e1 e2 => by simp only [if_neg e1, if_neg e2]⟩
        | one p tp kk ek =>
          subst ek
          have hp : p ≤ name.length := hqn p rfl
          k_steps
          all_goals (rename Fr _ _ _ _ => lF'); (rename News _ _ _ _ => lN')
          all_goals (rename _ ∧ _ ∧ _ ∧ _ ∧ LCg.Off1 _ _ => ho1)
          all_goals exact ⟨_, _, _, _, _, _, rfl, rfl, lF', cb_drop lN' sub_swap, nwI (Ne.symm ho1.1) o2 o3 hoffn, rfl, (by first
            | exact tj_next (by assumption) (Ne.symm ho1.2.2.1) (Ne.symm ho1.2.2.2.1) (.one _ _ _ rfl) (step_y1 (by assumption) (by assumption) (by assumption)) hr' hcs1 hfold hqn
            | exact tj_next (by assumption) (Ne.symm ho1.2.2.1) (Ne.symm ho1.2.2.2.1) (.one _ _ _ rfl) (step_y2 (by assumption) (by assumption) (by assumption)) hr' hcs1 hfold hqn
            | exact tj_next (by assumption) (Ne.symm ho1.2.2.1) (Ne.symm ho1.2.2.2.1) .none (step_ge (by assumption)) hr' hcs1 hfold hqn
            | exact tj_next (by assumption) (Ne.symm ho1.2.2.1) (Ne.symm ho1.2.2.2.1) .none (step_n1 (by assumption) (by assumption)) hr' hcs1 hfold hqn
            | exact tj_next (by assumption) (Ne.symm ho1.2.2.1) (Ne.symm ho1.2.2.2.1) .none (step_n2 (by assumption) (by assumption)) hr' hcs1 hfold hqn), fun z e1 e2 => by simp only [if_neg e1, if_neg e2]⟩
    · cases hr0
  · rintro u val nw h tk d ⟨pl, pvs, k, oi, rfl, rfl, ⟨v₀, dI⟩, hpl1, hpl2, ⟨cs1, q, hq, hr, hcs1, hqn, hfold⟩ | ⟨hr0, ns, hns, hnl, hct⟩⟩ htk rfl F2 N2
    · cases hasStar with
      | true => cases cs1 <;> cases hr
      | false =>
        cases cs1 with
        | cons _ _ => cases hr
        | nil =>
          cases hq with
          | none =>
            have e : takesF cs0 false name = false := by unfold takesF; rw [← hfold]; rfl
            rw [e] at hQ
            k_steps
            exact hQ _ _ _ _ ⟨rfl, rfl⟩ (by assumption) (cb_drop (by assumption) (by k_extra "my sub"))
          | one p tp kk ek =>
            subst ek
            have hp : p ≤ name.length := hqn p rfl
            have e : takesF cs0 false name = ([(p : Int)].any fun x => x == (name.length : Int)) := by
              unfold takesF; rw [← hfold]
              show (some p == some name.length) = _
              by_cases e : p = name.length
              · subst e; simp
              · have : ¬ (p : Int) = (name.length : Int) := by omega
                simp only [List.any_cons, List.any_nil, Bool.or_false, Option.some_beq_some]
                rw [beq_eq_false_iff_ne.mpr e, beq_eq_false_iff_ne.mpr this]
            rw [e] at hQ
            k_steps
            exact hQ _ _ _ _ ⟨rfl, rfl⟩ (by assumption) (cb_drop (by assumption) (by k_extra "my sub"))
    · rw [← hct] at hQ
      k_steps
      exact hQ _ _ _ _ ⟨rfl, rfl⟩ (by assumption) (cb_drop (by assumption) (by k_extra "my sub"))
theorem main : Pre w ap n1 vs cs0 news star name t1 t2 cd := PSigma.snd ent (eps_all3 (P := ent.1) (z := z₂) (by delta z₂; exact rfl) (by delta g1; exact rfl) (by delta L1; exact rfl) (by delta hp1; exact rfl) body)
end Htakes_con
theorem takes_con (w : World) (ap : Addr) (n1 : Nat) (vs : List Value) (cs0 : List Str) (hasStar : Bool) (news : List (Addr × Obj)) (star name : Str) (t1 t2 : Tok)
    (h1 : (ap, lst vs n1) ∈ news) (hv : StrsAre vs (cs0 ++ if hasStar then [star] else [])) (hcs : ∀ x ∈ cs0, Small x ∧ (x == star) = false ∧ 1 ≤ x.length) (hm : Small star) (hn : Small name) :
    Con 480 w 219 [.ref ap, .str star t1, .str name t2] news (fun v news' => news' = news ∧ v = .bool (takesF cs0 hasStar name)) :=
  con_of fun c => eps_allz (z := Htakes_con.z₀) (P := fun z : Htakes_con.Dat => Htakes_con.Pre z.1 z.2.1 z.2.2.1 z.2.2.2.1 z.2.2.2.2.1 z.2.2.2.2.2.1 z.2.2.2.2.2.2.1 z.2.2.2.2.2.2.2.1 z.2.2.2.2.2.2.2.2.1 z.2.2.2.2.2.2.2.2.2.1 z.2.2.2.2.2.2.2.2.2.2) (by delta Htakes_con.z₀; exact rfl) (by with_unfolding_all exact Htakes_con.main) (w, ap, n1, vs, cs0, news, star, name, t1, t2, c) hasStar h1 hv hcs hm hn
end
section
example : True := by
  k_with_none
  w_top off
  (k_with "ite" => (k_closed; (first | (refine ite_pos (by with_reducible assumption) ?_) | (refine ite_neg (by with_reducible assumption) ?_) | (refine ite_isFalse (by with_reducible assumption) ?_) | k_dflt (refine ite_pos (by decide) ?_) | k_dflt (refine ite_neg (by decide) ?_) | (refine ite_pos (by k_dec) ?_) | (refine ite_neg (by k_dec) ?_))))
  (k_with "k_room" => (first | exact room_of (by assumption) 0 rfl | exact room_of (by assumption) 1 rfl | exact room_of (by assumption) 2 rfl | exact room_of (by assumption) 3 rfl | exact room_of (by assumption) 4 rfl | exact room_of (by assumption) 5 rfl | exact room_of (by assumption) 6 rfl))
  (k_with "my enter" => ((first
    | (refine' code_def ?k1 ?k2 ?k3 ?k4 ?k5 ?kA ?kF ?kK ?k6 ?k7 ?k8 ?k9 ?kB ?_ ?c2 ?c3 ?c4 ?c5; (case kA => exact rfl); (case kF => exact rfl); (case kK => first | exact rfl | assumption); (case k1 => k_asm); (case k2 => k_asm); (case k3 => k_asm); (case k4 => k_asm); (case k5 => k_asm); (case k6 => k_is); (case k7 => k_is); (case k8 => k_room); (case k9 => first | exact BindsTo.of_eq rfl | exact binds_K (by k_in) rfl (by k_is) rfl rfl rfl | fail "k_enter: no rule for these arguments"); (case c5 => decide); (case kB => exact locs rfl); (case c2 => exact rfl); (case c3 => exact rfl); (case c4 => exact rfl); k_whole; intro g' L' h' FG' F' N' B' X' T'; (try dsimp only); (try k_lift B'); (try k_fold))
    | (refine' code_defC ?k1 ?k2 ?k3 ?k4 ?k5 ?kA ?kF ?kK ?k6 ?k7 ?k8 ?k9 ?kB ?kD ?_ ?c2 ?c3 ?c4; (case kA => exact rfl); (case kF => exact rfl); (case kK => first | exact rfl | assumption); (case k1 => k_asm); (case k2 => k_asm); (case k3 => k_asm); (case k4 => k_asm); (case k5 => k_asm); (case k6 => k_is); (case k7 => k_is); (case k8 => k_room); (case k9 => first | exact BindsTo.of_eq rfl | exact binds_K (by k_in) rfl (by k_is) rfl rfl rfl | fail "k_enter: no rule for these arguments"); (case kB => exact rfl); (case kD => decide +kernel); (case c2 => exact rfl); (case c3 => exact rfl); (case c4 => exact rfl); k_whole; intro g' L' h' tk' cells' FG' F' N' Y' B' X' T' l1; (try k_lt l1); k_cells Y'; (try simp only [List.cons_append, List.nil_append] at N'); (try dsimp only); (try k_lift B'); (try k_fold)))))
  (k_with "call builtin:len" => (((with_reducible show wpAny _ _ (call (Value.builtin _) [Value.str _ _]) _ _ _); refine len_str (by omega) ?_)))
  (k_with "SearchPost" => (((with_reducible show SearchPost _ _ _ _ _ _ _ _ _ (Flow.ret _) _); dsimp only [SearchPost])))
  (k_with "execs cons" => ((k_here; (with_reducible show wpAny _ _ _ _ _ (Shared.mk _ _ _ (_ + _) _)); refine gentoks 1 (by first | omega | (dsimp only; omega)) ?_; intro _ _)))
  (k_with "execs nil" => ((k_here; (with_reducible show wpAny _ _ _ _ _ (Shared.mk _ _ _ (_ + _) _)); refine gentoks 1 (by first | omega | (dsimp only; omega)) ?_; intro _ _)))
  (k_with "my sub" => (first | exact fun _ h => h | exact fun _ h => List.mem_cons_of_mem _ h | exact fun _ h => List.mem_cons_of_mem _ (List.mem_cons_of_mem _ h) | exact fun _ h => List.mem_cons_of_mem _ (List.mem_cons_of_mem _ (List.mem_cons_of_mem _ h))))
  (k_with "k_all" => (exact off_of (by assumption) (by omega)))
  (k_with "my le" => (first | exact le_of 0 rfl (by assumption) | exact le_of 1 rfl (by assumption) | exact le_of 2 rfl (by assumption) | exact le_of 3 rfl (by assumption) | exact le_of 6 rfl (by assumption) | exact le_of 4 rfl (by assumption) | exact le_of 5 rfl (by assumption)))
  trivial
namespace HnormB_con1
noncomputable def Pre (w : World) (news : List (Addr × Obj)) (t : Tok) (cd : CD) : Prop :=
  cd.Ok 480 w 73 [.str (Str.ofString "/usr/./lib/") t] news (fun v news' => news' = news ∧ ∃ t', v = .str (Str.ofString "/usr/lib") t')
noncomputable abbrev Dat : Type := World × (List (Addr × Obj)) × Tok × CD
noncomputable def d₀ : Dat := (wd, [], (0 : Nat), CD.d)
@[irreducible] noncomputable def z₀ : Dat := eps d₀ fun z => ¬ Pre z.1 z.2.1 z.2.2.1 z.2.2.2
@[irreducible] noncomputable def w : World := z₀.1
@[irreducible] noncomputable def news : List (Addr × Obj) := z₀.2.1
@[irreducible] noncomputable def t : Tok := z₀.2.2.1
@[irreducible] noncomputable def cd : CD := z₀.2.2.2
@[irreducible] noncomputable def ent : (B : Heap → Addr → Heap → Prop) ×' ((∀ g L h, B g L h) → Pre w news t cd) := by
  apply PSigma.mk
  intro hB
  intro hdp hun B F X N T hQ
  have hk : (⟨.function, cd.cnm, cd.cg, cd.cc, cd.cm⟩ : Scope).kind = .function := rfl
  refine wpAny_call ?_
  k_dflt (refine' code_frz ?k1 ?k2 ?k3 ?k4 ?k5 ?kA ?kF ?kK ?k6 ?k7 ?k8 ?k9 ?kB ?_ ?c2 ?c3 ?c4 ?c5; (case kA => exact rfl); (case kF => exact rfl); (case kK => first | exact rfl | assumption); (case k1 => k_asm); (case k2 => k_asm); (case k3 => k_asm); (case k4 => k_asm); (case k5 => k_asm); (case k6 => k_is); (case k7 => k_is); (case k8 => k_room); (case k9 => first | exact BindsTo.of_eq rfl | exact binds_K (by k_in) rfl (by k_is) rfl rfl rfl | fail "k_enter: no rule for these arguments"); (case c5 => decide); (case kB => exact locs rfl); (case c2 => exact rfl); (case c3 => exact rfl); (case c4 => exact rfl); k_whole; intro g1 L1 hp1 FG1 F1 N1 B1 X1 T1 hn1; (try dsimp only))
  clear hk
  revert hdp hun B F X N T hQ FG1 F1 N1 B1 X1 T1 hn1
  exact hB g1 L1 hp1
noncomputable abbrev Dat₂ : Type := Heap × Addr × Heap
@[irreducible] noncomputable def z₂ : Dat₂ := eps ({}, (0 : Nat), {}) fun z => ¬ ent.1 z.1 z.2.1 z.2.2
@[irreducible] noncomputable def g1 : Heap := z₂.1
@[irreducible] noncomputable def L1 : Addr := z₂.2.1
@[irreducible] noncomputable def hp1 : Heap := z₂.2.2
theorem body : ent.1 g1 L1 hp1 := by
  delta ent
  intro hdp hun B F X N T hQ FG1 F1 N1 B1 X1 T1 hn1
  have hk : (⟨.function, cd.cnm, cd.cg, cd.cc, cd.cm⟩ : Scope).kind = .function := rfl
  k_steps
  all_goals (try k_data)
  intro hN
  exact hQ _ _ _ _ ⟨rfl, _, congrArg (Value.str · _) (by decide +kernel)⟩ (by assumption) hN
theorem main : Pre w news t cd := PSigma.snd ent (eps_all3 (P := ent.1) (z := z₂) (by delta z₂; exact rfl) (by delta g1; exact rfl) (by delta L1; exact rfl) (by delta hp1; exact rfl) body)
end HnormB_con1
theorem normB_con1 (w : World) (news : List (Addr × Obj)) (t : Tok) :
    Con 480 w 73 [.str (Str.ofString "/usr/./lib/") t] news (fun v news' => news' = news ∧ ∃ t', v = .str (Str.ofString "/usr/lib") t') :=
  con_of fun c => eps_allz (z := HnormB_con1.z₀) (P := fun z : HnormB_con1.Dat => HnormB_con1.Pre z.1 z.2.1 z.2.2.1 z.2.2.2) (by delta HnormB_con1.z₀; exact rfl) (by with_unfolding_all exact HnormB_con1.main) (w, news, t, c) 
namespace HnormB_con2
noncomputable def Pre (w : World) (news : List (Addr × Obj)) (t : Tok) (cd : CD) : Prop :=
  cd.Ok 480 w 73 [.str (Str.ofString "/t[mp]") t] news (fun v news' => news' = news ∧ ∃ t', v = .str (Str.ofString "/t[mp]") t')
noncomputable abbrev Dat : Type := World × (List (Addr × Obj)) × Tok × CD
noncomputable def d₀ : Dat := (wd, [], (0 : Nat), CD.d)
@[irreducible] noncomputable def z₀ : Dat := eps d₀ fun z => ¬ Pre z.1 z.2.1 z.2.2.1 z.2.2.2
@[irreducible] noncomputable def w : World := z₀.1
@[irreducible] noncomputable def news : List (Addr × Obj) := z₀.2.1
@[irreducible] noncomputable def t : Tok := z₀.2.2.1
@[irreducible] noncomputable def cd : CD := z₀.2.2.2
@[irreducible] noncomputable def ent : (B : Heap → Addr → Heap → Prop) ×' ((∀ g L h, B g L h) → Pre w news t cd) := by
  apply PSigma.mk
  intro hB
  intro hdp hun B F X N T hQ
  have hk : (⟨.function, cd.cnm, cd.cg, cd.cc, cd.cm⟩ : Scope).kind = .function := rfl
  refine wpAny_call ?_
  k_dflt (refine' code_frz ?k1 ?k2 ?k3 ?k4 ?k5 ?kA ?kF ?kK ?k6 ?k7 ?k8 ?k9 ?kB ?_ ?c2 ?c3 ?c4 ?c5; (case kA => exact rfl); (case kF => exact rfl); (case kK => first | exact rfl | assumption); (case k1 => k_asm); (case k2 => k_asm); (case k3 => k_asm); (case k4 => k_asm); (case k5 => k_asm); (case k6 => k_is); (case k7 => k_is); (case k8 => k_room); (case k9 => first | exact BindsTo.of_eq rfl | exact binds_K (by k_in) rfl (by k_is) rfl rfl rfl | fail "k_enter: no rule for these arguments"); (case c5 => decide); (case kB => exact locs rfl); (case c2 => exact rfl); (case c3 => exact rfl); (case c4 => exact rfl); k_whole; intro g1 L1 hp1 FG1 F1 N1 B1 X1 T1 hn1; (try dsimp only))
  clear hk
  revert hdp hun B F X N T hQ FG1 F1 N1 B1 X1 T1 hn1
  exact hB g1 L1 hp1
noncomputable abbrev Dat₂ : Type := Heap × Addr × Heap
@[irreducible] noncomputable def z₂ : Dat₂ := eps ({}, (0 : Nat), {}) fun z => ¬ ent.1 z.1 z.2.1 z.2.2
@[irreducible] noncomputable def g1 : Heap := z₂.1
@[irreducible] noncomputable def L1 : Addr := z₂.2.1
@[irreducible] noncomputable def hp1 : Heap := z₂.2.2
theorem body : ent.1 g1 L1 hp1 := by
  delta ent
  intro hdp hun B F X N T hQ FG1 F1 N1 B1 X1 T1 hn1
  have hk : (⟨.function, cd.cnm, cd.cg, cd.cc, cd.cm⟩ : Scope).kind = .function := rfl
  k_steps
  all_goals (try k_data)
  intro hN
  exact hQ _ _ _ _ ⟨rfl, _, congrArg (Value.str · _) (by decide +kernel)⟩ (by assumption) hN
theorem main : Pre w news t cd := PSigma.snd ent (eps_all3 (P := ent.1) (z := z₂) (by delta z₂; exact rfl) (by delta g1; exact rfl) (by delta L1; exact rfl) (by delta hp1; exact rfl) body)
end HnormB_con2
theorem normB_con2 (w : World) (news : List (Addr × Obj)) (t : Tok) :
    Con 480 w 73 [.str (Str.ofString "/t[mp]") t] news (fun v news' => news' = news ∧ ∃ t', v = .str (Str.ofString "/t[mp]") t') :=
  con_of fun c => eps_allz (z := HnormB_con2.z₀) (P := fun z : HnormB_con2.Dat => HnormB_con2.Pre z.1 z.2.1 z.2.2.1 z.2.2.2) (by delta HnormB_con2.z₀; exact rfl) (by with_unfolding_all exact HnormB_con2.main) (w, news, t, c) 
example : True := by
  (k_with "call ref" => ((k_here; (with_reducible show wpAny _ _ (call (Value.ref 73) [Value.str _ _]) _ _ _); (rename Fr _ _ _ _ => lF'); (rename News _ _ _ _ => lN'); k_dflt (refine (hnB _ _).use lF' lN' (by with_unfolding_all rfl) (by k_extra "my le") (by k_extra "my le") (by assumption) (by assumption) (by assumption) (by rfl) ?_); clear lF' lN'; intro v' news' h' tk' hp' F' N'; (obtain ⟨e1', t', e2'⟩ := hp'; subst e1' e2'))))
  trivial
namespace Hnorm_conG
noncomputable def Pre (w : World) (news : List (Addr × Obj)) (t : Tok) (x : Str) (r : Str) (cd : CD) : Prop :=
  (∀ (news : List (Addr × Obj)) (t : Tok), Con 480 w 73 [.str x t] news (fun v news' => news' = news ∧ ∃ t', v = .str r t')) → cd.Ok 460 w 80 [.str x t] news (fun v news' => news' = news ∧ ∃ t', v = .str r t')
noncomputable abbrev Dat : Type := World × (List (Addr × Obj)) × Tok × Str × Str × CD
noncomputable def d₀ : Dat := (wd, [], (0 : Nat), (Str.ofString ""), (Str.ofString ""), CD.d)
@[irreducible] noncomputable def z₀ : Dat := eps d₀ fun z => ¬ Pre z.1 z.2.1 z.2.2.1 z.2.2.2.1 z.2.2.2.2.1 z.2.2.2.2.2
@[irreducible] noncomputable def w : World := z₀.1
@[irreducible] noncomputable def news : List (Addr × Obj) := z₀.2.1
@[irreducible] noncomputable def t : Tok := z₀.2.2.1
@[irreducible] noncomputable def x : Str := z₀.2.2.2.1
@[irreducible] noncomputable def r : Str := z₀.2.2.2.2.1
@[irreducible] noncomputable def cd : CD := z₀.2.2.2.2.2
theorem main : Pre w news t x r cd := by
  intro hnB hdp hun B F X N T hQ
  have hk : (⟨.function, cd.cnm, cd.cg, cd.cc, cd.cm⟩ : Scope).kind = .function := rfl
  k_steps
  all_goals (try k_data)
  exact hQ _ _ _ _ ⟨rfl, _, rfl⟩ (by assumption) (cb_drop (by assumption) (by k_extra "my sub"))
end Hnorm_conG
theorem norm_conG (w : World) (news : List (Addr × Obj)) (t : Tok) (x r : Str) (hnB : ∀ (news : List (Addr × Obj)) (t : Tok), Con 480 w 73 [.str x t] news (fun v news' => news' = news ∧ ∃ t', v = .str r t')) :
    Con 460 w 80 [.str x t] news (fun v news' => news' = news ∧ ∃ t', v = .str r t') :=
  con_of fun c => eps_allz (z := Hnorm_conG.z₀) (P := fun z : Hnorm_conG.Dat => Hnorm_conG.Pre z.1 z.2.1 z.2.2.1 z.2.2.2.1 z.2.2.2.2.1 z.2.2.2.2.2) (by delta Hnorm_conG.z₀; exact rfl) (by with_unfolding_all exact Hnorm_conG.main) (w, news, t, x, r, c) hnB
theorem norm_con1 (w : World) (news : List (Addr × Obj)) (t : Tok) :
    Con 460 w 80 [.str (Str.ofString "/usr/./lib/") t] news (fun v news' => news' = news ∧ ∃ t', v = .str (Str.ofString "/usr/lib") t') :=
  norm_conG w news t _ _ (normB_con1 w)
theorem norm_con2 (w : World) (news : List (Addr × Obj)) (t : Tok) :
    Con 460 w 80 [.str (Str.ofString "/t[mp]") t] news (fun v news' => news' = news ∧ ∃ t', v = .str (Str.ofString "/t[mp]") t') :=
  norm_conG w news t _ _ (normB_con2 w)
end
section
open PyProof.Rows.LCg
section
variable {prog : Program} {w : World} {A : Around} {E : Value → Shared → Prop} {s : Shared} {h₀ : Heap} {L : Addr} {m : Str → Option Value} {env : Env}
/-- the i-th of the texts l -/
noncomputable def TextAt (l : List Str) (i : Nat) (v : Value) : Prop := ∃ r u, l[i]? = some r ∧ v = .str r u
/-- what a comprehension along a text wants of the text's value -/
noncomputable def SrcS (prog : Program) (w : World) (A : Around) (h₀ : Heap) (L : Addr) (m : Str → Option Value) (env : Env) (elt : Expr) (x : Str) (scope : Scope) (cl : List (Str × Addr)) (Fin : Shared → List Value → List (Addr × Obj) → Prop) (xv : Value) (s₁ : Shared) : Prop :=
  ∃ tx t l news, xv = .str tx t ∧ A.handled = none ∧ Fr h₀ L s₁.heap m ∧ News h₀ L s₁.heap news ∧ tx.cps.toList.map (fun c => (⟨#[c]⟩ : Str)) = l ∧ l.length ≤ sizeLine ∧
    ∀ s₂ : Shared, (∃ h, s₂ = { s₁ with heap := h }) → CompRest prog w A h₀ L m env elt x scope cl s₂ (fun _ => True) (TextAt l) (Fin s₂) l.length 0 [] news
theorem textAt_of {tx : Str} {l : List Str} {i : Nat} {v : Value} (e : tx.cps.toList.map (fun c => (⟨#[c]⟩ : Str)) = l) (h : SignAt tx i v) : TextAt l i v := by
  obtain ⟨c, u, hc, hv⟩ := h
  refine ⟨⟨#[c]⟩, u, ?_, hv⟩
  rw [← e, List.getElem?_map, Array.getElem?_toList, hc]; rfl
theorem walks_text {I : Addr} {n : Nat} {St : Nat → Heap → Prop} {tx : Str} {l : List Str} (e : tx.cps.toList.map (fun c => (⟨#[c]⟩ : Str)) = l) (W : Walks prog w A I [I] [I] tx.cps.size (SignAt tx) St) (hn : l.length = n) : Walks prog w A I [I] [I] n (TextAt l) St := by
  have hs : tx.cps.size = n := by rw [← hn, ← e, List.length_map, Array.length_toList]
  subst hs
  exact { sub := W.sub, frame := W.frame, done := W.done, self := W.self, item := fun i s Q E hi st hQ => W.item i s Q E hi st fun v h' tk hP => hQ v h' tk (textAt_of e hP) }
theorem ListComp_S {elt iter : Expr} {x : Str} {px : Pos} {scope : Scope} {cl : List (Str × Addr)} {pos : Pos} {Q : Value → Shared → Prop} (F₀ : Fr h₀ L s.heap m)
    (hclos : closureFor scope env = pure cl) (hcell : ∀ y ∈ scope.names, y.2 ≠ .cell) (hkind : scope.kind = .function)
    (hnames : ∀ y ∈ scope.names, y.2 = .local → scope.names.lookup y.1 = some .local) (hx : scope.names.lookup x = some .local)
    (h : wpAny (model prog w) A (eval iter env) (SrcS prog w A h₀ L m env elt x scope cl (fun s₂ => FinE h₀ L m s₂ Q)) E s)
    (hs : ∀ x, foldedSetIterable iter env x = pure x := by intro _; rfl) :
    wpAny (model prog w) A (eval (.ListComp elt [⟨.Name x px, iter, [], 0⟩] scope pos) env) Q E s := by
  rw [eval_ListComp]
  refine wpAny_comprehension_free (use := none) rfl hs hclos hkind hnames (wpAny_mono h (fun xv s₁ h₁ => ?_) fun _ _ e => e)
  obtain ⟨tx, t, l, news, rfl, hh, F, N, hl, hsz, R⟩ := h₁
  have go : ∀ (cls : String) (o : Obj), (∀ I, Walks prog w A I [I] [I] tx.cps.size (SignAt tx) (fun i h => h.IsStrIter I cls tx t i)) → (s₁.heap.push o).IsStrIter s₁.heap.objs.size cls tx t 0 →
      wpAny (model prog w) A (newList []) (fun acc s₃ => wpAny (model prog w) A (newFunctionEnv scope env.globals cl [] env.qual none .none (some env)) (fun cenv s₄ =>
        codeAny (model prog w) A (.compStart (.ListComp elt [⟨.Name x px, iter, [], 0⟩] scope pos) 0 (.ref s₁.heap.objs.size) acc { cenv with scope := relabel scope env }) (compPost (model prog w) A E none Q acc cenv.locals) s₄) E s₃) E { s₁ with heap := s₁.heap.push o } := by
    intro cls o W hst
    refine block_U (walks_text hl (W s₁.heap.objs.size) rfl) hsz (fun i h st => by obtain ⟨o, e, _⟩ := st; exact ⟨o, e⟩) (fun i h h' o nw st e e' _ _ _ => by obtain ⟨o', q, r⟩ := st; rw [e] at q; cases q; exact ⟨o, e', r⟩) hcell hkind hx hst (fun b hb => ?_)
      (F.push _) (fun p hp => ⟨Heap.get?_push_of_some _ (N p hp).1, (N p hp).2⟩) (Nat.ne_of_lt F.ns.lt) (next_is_new F) (fun p hp => Nat.ne_of_lt (Heap.lt_size (N p hp).1)) trivial (R _ ⟨_, rfl⟩) ?_
    · rw [List.mem_singleton.mp hb]
      show s₁.heap.objs.size < (s₁.heap.push _).objs.size
      rw [Heap.size_push]; exact Nat.lt_succ_self _
    · intro D C h tk m' ys news' F' N' o1 hn hC₀ hD₀ hCL hDL hCD offC fin
      refine ⟨m', hn, fun h'' hs'' => fin D h'' tk (F'.change hs'' hCL hC₀) (fun p hp => ?_) o1⟩
      refine ⟨hs''.extBut _ _ ?_ (N' p hp).1, (N' p hp).2⟩
      rcases List.mem_cons.mp hp with rfl | hp
      · exact Ne.symm hCD
      · exact offC p hp
  cases ha : tx.cps.all (· < 128)
  · exact wpAny_pyIter_wide ha (go "str_iterator" _ (fun I => Walks.strWide hh I tx t) ⟨_, Heap.get?_push_size _ rfl, rfl, rfl⟩)
  · exact wpAny_pyIter_ascii ha (go "str_ascii_iterator" _ (fun I => Walks.strAscii hh I tx t) ⟨_, Heap.get?_push_size _ rfl, rfl, rfl⟩)
theorem SrcS.intro {elt : Expr} {x : Str} {scope : Scope} {cl : List (Str × Addr)} {Fin : Shared → List Value → List (Addr × Obj) → Prop} {tx : Str} {t : Tok} {l : List Str} {news : List (Addr × Obj)} {s₁ : Shared}
    (hl : tx.cps.toList.map (fun c => (⟨#[c]⟩ : Str)) = l) (hh : A.handled = none) (F : Fr h₀ L s₁.heap m) (N : News h₀ L s₁.heap news) (hsz : l.length ≤ sizeLine)
    (h : ∀ g, CompRest prog w A h₀ L m env elt x scope cl { s₁ with heap := g } (fun _ => True) (TextAt l) (Fin { s₁ with heap := g }) l.length 0 [] news) :
    SrcS prog w A h₀ L m env elt x scope cl Fin (.str tx t) s₁ := ⟨tx, t, l, news, rfl, hh, F, N, hl, hsz, fun _ ⟨g, e⟩ => e ▸ h g⟩
end
end
section
open PySem.W.X
/-- a list's append, taken as a value -/
noncomputable def lap (l : Addr) : Obj := { cls := .type "builtin_function_or_method", data := .fields #[.builtin "list.append", .ref l] }
noncomputable def LapAt (u l : Addr) (h : Heap) : Prop := h.get? u = some (lap l)
section
variable {w : World} {A : Around} {E : Value → Shared → Prop} {s : Shared}
example : True := by
  k_with_none
  w_top off
  (k_with "x_close" => ((refine' hQ9 _ _ _ _ ?e ?m; (case m => assumption); (case e => decide +kernel))))
  trivial
theorem ga_app (w : World) (A : Around) (s : Shared) (X : (hd.heap_1 w.params).In s.heap) (l : Addr) (t : Tok) (hl : s.heap.get? l = some { cls := .type "list", dict := none, data := .seq #[] 0, slots := #[] }) (Q E : Value → Shared → Prop)
   (hQ9 : ∀ q h tk (id : String), id = "list.append" → Mem s.heap h [] [(q, { cls := .type "builtin_function_or_method", data := .fields #[.builtin id, .ref l] })] → Q (.ref q) { s with heap := h, toks := tk }) :
   wpAny (model P w) A (call (.builtin "list.__getattribute__") [.ref l, .str (Str.ofString "append") t]) Q E s := by
  x_run
theorem sub_list_module : isSubtype (.type "list") (.type "module") = pure false := by rw [isSubtype_type]; kernel_rfl
theorem sig_app : Manifest.signature? "list.append" = some ⟨.oneArg, "list.append", "append", .self, [⟨"object", .posOnly, true⟩]⟩ := by kernel_rfl
theorem kind_app : builtinKind "list.append" = some .method := by kernel_rfl
theorem args_app (full : String) (hf : (full != "*") = true) (a b : Value) {Q : Unit → Shared → Prop} {M : Model} (h : Q () s) : wpAny M A (Bind.checkArgs "list.append" ⟨.oneArg, full, "append", .self, [⟨"object", .posOnly, true⟩]⟩ ⟨[a, b], []⟩) Q E s := by
  unfold Bind.checkArgs
  dsimp only
  refine wpAny_bind (m := Bind.printed full true _ _) (PyProof.Rows.printed_name hf ?_)
  refine wpAny_bind (m := Bind.printed "append" false _ _) (PyProof.Rows.printed_name (by decide) ?_)
  have hrn : (Manifest.Receiver.self == Manifest.Receiver.none) = false := by decide
  have hn : (if (Manifest.Receiver.self == Manifest.Receiver.none) = true then [a, b].length else [a, b].length - 1) = 1 := by simp [hrn]
  have hc : Bind.check ⟨.oneArg, full, "append", .self, [⟨"object", .posOnly, true⟩]⟩ full "append" 1 [] = pure () := by
    simp [Bind.check, Bind.checkCount, Bind.isPositional]
  rw [show List.map (fun x => x.1) ([] : List (Str × Value)) = [] from rfl, hn, hc]
  exact wpAny_pure h
theorem check_app {l : Addr} {x : Value} {its : Array Value} {n : Nat} {Q : Unit → Shared → Prop} {M : Model} (ho : s.heap.get? l = some { cls := .type "list", data := .seq its n }) (h : Q () s) :
    wpAny M A (checkBoundCall "list.append" ⟨[.ref l, x], []⟩) Q E s := by
  have hT : s.TypeIs (.ref l) "list" := ⟨_, ho, rfl⟩
  simp only [checkBoundCall, sig_app, kind_app]
  refine wpAny_bind (wpAny_isInstance hT sub_list_module ?_)
  refine wpAny_bind ?_
  show wpAny _ _ (isType (.ref l)) _ _ _
  unfold isType
  refine wpAny_bind (wpAny_loadPart ho ?_)
  refine wpAny_pure ?_
  simp only [Bool.false_eq_true, if_false]
  refine wpAny_bind (wpAny_typeOf hT ?_)
  exact args_app _ (by decide +kernel) _ _ h
theorem quiet_app {as : Args} : (Code.builtin "list.append" as).quiet = true := Code.quiet_builtin _ (by decide +kernel)
theorem ap_call {u l : Addr} {its : Array Value} {n : Nat} {x : Value} {Q : Value → Shared → Prop} (hu : LapAt u l s.heap) (ho : s.heap.get? l = some { cls := .type "list", data := .seq its n })
    (h : ∀ h', Heap.SameBut l s.heap h' → h'.get? l = some { cls := .type "list", data := .seq (its.push x) (n + 1) } → Q .none { s with heap := h' }) (hsz : its.size ≤ sizeLine) : wpAny (model P w) A (call (.ref u) [x]) Q E s := by
  refine wpAny_call (codeAny_of_tree ?_)
  show wpAny _ A.in1 (callAny (.ref u) ⟨[x], []⟩) _ _ s
  simp only [callAny]
  refine wpAny_bind (wpAny_load hu ?_)
  simp only [lap]
  refine KFB.if_so (by decide) ?_
  refine wpAny_bind (check_app ho ?_)
  refine wpAny_bind (wpAny_pure (wpAny_pure ?_))
  refine ⟨quiet_app, codeAny_builtin PySem.F.entry_list_append ?_⟩
  show wpAny _ _ (updateSeq l (·.push x) >>= fun _ => ret .none) _ _ s
  refine wpAny_bind ?_
  refine wpAny_updateSeq ho rfl (wpAny_pure (h _ (Heap.SameBut.update ..) ?_))
  rw [Heap.get?_update_self _ ho (by rw [mapSeq_push]; rfl), mapSeq_push]
variable {h₀ : Heap} {L : Addr} {m : Str → Option Value} {news news' : List (Addr × Obj)}
theorem lap_at {u l : Addr} {h : Heap} (N : News h₀ L h news) (hu : (u, lap l) ∈ news) : LapAt u l h := (N _ hu).1
theorem ap_K {u l : Addr} {its : Array Value} {n : Nat} {x : Value} {Q : Value → Shared → Prop} (F : Fr h₀ L s.heap m) (N : News h₀ L s.heap news) (hu : (u, lap l) ∈ news) (U : Upd l (listOf its n) (listOf (its.push x) (n + 1)) news news')
    (h : ∀ h', Fr h₀ L h' m → News h₀ L h' news' → Q .none { s with heap := h' }) (hsz : its.size ≤ sizeLine) : wpAny (model P w) A (call (.ref u) [x]) Q E s := by
  obtain ⟨pre, post, rfl, rfl, a, b⟩ := U.split
  have z := N (l, listOf its n) (List.mem_append.mpr (.inr (.head _)))
  exact ap_call (lap_at N hu) z.1 (hsz := hsz) fun h' hs ho' => h h' (F.change hs z.2.1 z.2.2) (news_set N a b hs ho')
theorem ap_fields {pos : Pos} {u l : Addr} {first : List Value} {args : List (Bool × Sem Value)} {Q : Value → Shared → Prop} {M : Model} (hplain : args.any (·.1) = false)
    (h : wpAny M A (evalArgs (.ref u) true args []) (fun x s₁ => LapAt u l s₁.heap ∧ wpAny M A (call (.ref u) (first ++ x.pos) x.kw) Q E s₁) E s) : wpAny M A (callWith pos (.ref u) first args []) Q E s := by
  unfold callWith
  refine wpAny_bind (wpAny_holding (wpAny_mono h (fun x s₁ h₁ => wpAny_bind (wpAny_standAt ?_)) fun _ _ x => x))
  obtain ⟨ho, hcall⟩ := h₁
  simp only [hplain, List.any_nil, Bool.or_false]
  refine wpAny_bind (m := keeperOf (.ref u)) ?_
  unfold keeperOf
  refine wpAny_bind (wpAny_load ho ?_)
  simp only [lap, show (Value.type "builtin_function_or_method" != Value.type "method") = true by decide, show (Value.type "builtin_function_or_method" == Value.type "builtin_function_or_method" || Value.type "builtin_function_or_method" == Value.type "method-wrapper") = true by decide, if_true]
  refine wpAny_pure ?_
  exact wpAny_bind (wpAny_mono hcall (fun r s₂ hr => wpAny_bind (wpAny_holding (wpAny_point (wpAny_pure hr)))) fun _ _ x => x)
theorem ap_callWith {pos : Pos} {u l : Addr} {first : List Value} {env : Env} {e : Expr} {rest : List Expr} {Q : Value → Shared → Prop} {M : Model} (_N : News h₀ L s.heap news) (_hm : (u, lap l) ∈ news)
    (h : wpAny M A (spliced (backTo pos (starEach (e :: rest) env))) (fun vs s₁ => LapAt u l s₁.heap ∧ wpAny M A (call (.ref u) (first ++ vs)) Q E s₁) E s)
    (he : starEach (e :: rest) env = (false, eval e env) :: starEach rest env := by rfl) (hplain : (backTo pos (starEach rest env)).any (·.1) = false := by rfl) :
    wpAny M A (callWith pos (.ref u) first (backTo pos (starEach (e :: rest) env)) []) Q E s := by
  rw [he] at h ⊢
  refine ap_fields (l := l) (by show (false || (backTo pos (starEach rest env)).any (·.1)) = false; rw [hplain]; rfl) ?_
  exact evalArgs_plain h
theorem getattr_app {l : Addr} {ex : Bool} {Q : Value → Shared → Prop} (F : Fr h₀ L s.heap m) (N : News h₀ L s.heap news) (X₀ : (hd.heap_1 w.params).In h₀) (hl : (l, listOf #[] 0) ∈ news)
    (h : ∀ q h' tk', Fr h₀ L h' m → News h₀ L h' ((q, lap l) :: news) → LCg.Off1 q news → s.toks ≤ tk' → Q (.ref q) { s with heap := h', toks := tk' }) :
    wpAny (model P w) A (getAttr (.ref l) (Str.ofString "append") ex) Q E s := by
  have hlo := (N _ hl).1
  have hT : ∀ t', ({ s with toks := t' } : Shared).TypeIs (.ref l) "list" := fun _ => ⟨_, hlo, rfl⟩
  unfold getAttr getAttrBy
  refine wpAny_bind (wpAny_mkText (wpAny_holding (wpAny_bind (wpAny_typeOf (hT _) (wpAny_bind (wpAny_of_eq PySem.F.slot_list_getattribute.lookup ?_))))))
  show wpAny _ _ (getAttrByItsOwn (.ref l) (.str (Str.ofString "append") s.toks) (.type "list") (.builtin "list.__getattribute__") true ex) _ _ _
  unfold getAttrByItsOwn hookBefore callGetattribute boundAndCalled
  refine wpAny_bind (wpAny_of_eq (show (if onTheHeap (.type "list") then typeLookup (.type "list") "__getattr__" else pure none) = pure none from rfl) ?_)
  refine wpAny_bind (wpAny_attempt (wpAny_holding ?_))
  have hex : (ex && onTheHeap (.builtin "list.__getattribute__")) = false := by cases ex <;> rfl
  rw [hex]
  simp only [Bool.false_eq_true, if_false]
  refine wpAny_bind (wpAny_of_eq (PySem.F.slot_list_getattribute.bind _) ?_)
  have z := ga_app w A { s with toks := s.toks + 1 } (X₀.keeps F.keep) l s.toks hlo (fun v s' => ∃ (q : Addr) (h : Heap) (tk : Nat) (id : String), v = .ref q ∧ s' = { s with heap := h, toks := tk } ∧ id = "list.append" ∧ Mem s.heap h [] [(q, { cls := .type "builtin_function_or_method", data := .fields #[.builtin id, .ref l] })]) (fun _ _ => False)
    (fun q h tk id hid D => ⟨q, h, tk, id, rfl, rfl, hid, D⟩)
  refine wpAny_mono (wpAny_toks z) (fun v s' hv => ?_) fun _ _ z => z.2.elim
  obtain ⟨hle, q, h', tk, id, rfl, rfl, rfl, D⟩ := hv
  dsimp only at hle
  have hk : ∀ b o, s.heap.get? b = some o → h'.get? b = some o := fun b o e => D.keep b o e (by simp [away])
  have hq := D.nw _ (.head _)
  refine wpAny_pure (id (h q h' tk (F.keeps hk) (fun p hp => ?_) ?_ (by omega)))
  · rcases List.mem_cons.mp hp with rfl | hp
    · refine ⟨hq.1, fun e => ?_, ?_⟩
      · obtain ⟨o, _, _, e2, _⟩ := F.ns
        have := hq.2; rw [show q = L from e, e2] at this; cases this
      · cases e : h₀.get? q with
        | none => rfl
        | some o => have := F.keep _ _ e; rw [hq.2] at this; cases this
    · exact ⟨hk _ _ (N p hp).1, (N p hp).2⟩
  · have go : ∀ l : List (Addr × Obj), (∀ p ∈ l, p.1 ≠ q) → LCg.Off1 q l := by
      intro l
      induction l with
      | nil => intro _; exact trivial
      | cons p r ih => intro hl; exact ⟨hl p (.head _), ih fun x hx => hl x (.tail _ hx)⟩
    exact go news fun p hp e => by have := (N p hp).1; rw [e, hq.2] at this; cases this
end
end
section
open PySem.Builtin PySem.Builtin.Str
section
variable {prog : Program} {w : World} {A : Around} {E : Value → Shared → Prop} {s : Shared} {d : Addr} {f : Int → Option Value} {c : Nat}
theorem sub_key_lookup : isSubtype (.type "KeyError") (.type "LookupError") = pure true := by rw [isSubtype_type]; kernel_rfl
theorem tl_keep {Q : Mapped → Shared → Prop} (hd : (d == sysModules) = false) (hh : A.handled = none) (hm : s.heap.MapOf (intKind prog w) d f) (hv : f (c : Int) = none)
    (h : ∀ h' e, Heap.NewExc s.heap h' e "KeyError" → Q .keep { s with heap := h', toks := s.toks + 1 + 1 }) : wpAny (model prog w) A (tableLookup (.ref d) c) Q E s := by
  unfold tableLookup
  refine wpAny_bind (wpAny_attempt (wpAny_bind (wpAny_mkInt ?_)))
  refine wpAny_getItem_missing_of (s := { s with toks := s.toks + 1 }) (k := (c : Int)) (intKind_is _ _ _ _) hd hh hm hv ?_
  intro h' e hn
  dsimp only
  have hT : ({ s with heap := h', toks := s.toks + 1 + 1 } : Shared).TypeIs (.ref e) "KeyError" := by
    obtain ⟨o, _, ho, hcl, _⟩ := hn.there
    exact ⟨o, ho, hcl⟩
  refine wpAny_bind (wpAny_isInstance hT sub_key_lookup ?_)
  simp only [if_true]
  exact wpAny_bind (wpAny_rule (wpAny_pure (h _ _ hn)))
theorem tl_text {x : PySem.Str} {t : Tok} {Q : Mapped → Shared → Prop} (hm : s.heap.MapOf (intKind prog w) d f) (hv : f (c : Int) = some (.str x t))
    (h : Q (.text x) { s with toks := s.toks + 1 + 1 }) : wpAny (model prog w) A (tableLookup (.ref d) c) Q E s := by
  unfold tableLookup
  refine wpAny_bind (wpAny_attempt (wpAny_bind (wpAny_mkInt ?_)))
  refine wpAny_getItem_of (s := { s with toks := s.toks + 1 }) (k := (c : Int)) (intKind_is _ _ _ _) hm hv ?_
  dsimp only
  refine wpAny_bind (wpAny_of_eq (a := none) (by first | rfl | kernel_rfl) ?_)
  dsimp only
  refine wpAny_bind (wpAny_of_eq (a := some x) (by first | rfl | kernel_rfl) ?_)
  exact wpAny_pure h
theorem tr_keep {t : Tok} {Q : Fin → Shared → Prop} (hc : c < 128) (hd : (d == sysModules) = false) (hh : A.handled = none) (hm : s.heap.MapOf (intKind prog w) d f) (hv : f (c : Int) = none)
    (h : ∀ h' e t' tk, Heap.NewExc s.heap h' e "KeyError" → s.toks ≤ t' → t' < tk → Q (.done (.ret (.str ⟨#[c]⟩ t'))) { s with heap := h', toks := tk }) : wpAny (model prog w) A (Builtin.«str.translate» ⟨[.str ⟨#[c]⟩ t, .ref d], []⟩) Q E s := by
  unfold Builtin.«str.translate»
  refine wpAny_bind (wpAny_of_eq (a := (.str ⟨#[c]⟩ t, ⟨#[c]⟩, .ref d)) (by first | rfl | kernel_rfl) ?_)
  dsimp only
  refine KFB.if_not (by rfl) ?_
  rw [← Array.forIn_toList]
  simp only [List.forIn_cons, List.forIn_nil]
  refine wpAny_bind (wpAny_bind ?_)
  refine KFB.if_not (by decide) ?_
  refine KFB.if_so (by simpa using hc) ?_
  simp only [List.lookup]
  refine wpAny_bind (tl_keep hd hh hm hv fun h' e hn => ?_)
  dsimp only
  refine wpAny_bind (wpAny_pure ?_)
  dsimp only
  refine wpAny_pure ?_
  dsimp only
  refine wpAny_pure ?_
  dsimp only
  refine KFB.if_not (by decide) ?_
  have e1 : List.foldl (fun acc (p : PySem.Str) => acc ++ p.cps) #[] (([⟨#[c]⟩] : List PySem.Str)).reverse = #[c] := by simp
  rw [e1]
  exact wpAny_bind (wpAny_mkStr (wpAny_pure (h h' e (s.toks + 1 + 1) (s.toks + 1 + 1 + 1) hn (by omega) (by omega))))
theorem tr_text {x : PySem.Str} {t u : Tok} {Q : Fin → Shared → Prop} (hc : c < 128) (hx : x.length = 2) (hm : s.heap.MapOf (intKind prog w) d f) (hv : f (c : Int) = some (.str x u))
    (h : ∀ t' tk, s.toks ≤ t' → t' < tk → Q (.done (.ret (.str x t'))) { s with toks := tk }) : wpAny (model prog w) A (Builtin.«str.translate» ⟨[.str ⟨#[c]⟩ t, .ref d], []⟩) Q E s := by
  unfold Builtin.«str.translate»
  refine wpAny_bind (wpAny_of_eq (a := (.str ⟨#[c]⟩ t, ⟨#[c]⟩, .ref d)) (by first | rfl | kernel_rfl) ?_)
  dsimp only
  refine KFB.if_not (by rfl) ?_
  rw [← Array.forIn_toList]
  simp only [List.forIn_cons, List.forIn_nil]
  refine wpAny_bind (wpAny_bind ?_)
  refine KFB.if_not (by decide) ?_
  refine KFB.if_so (by simpa using hc) ?_
  simp only [List.lookup]
  refine wpAny_bind (tl_text hm hv ?_)
  have e2 : (x.length == 1 && x.cps.all fun x => decide (x < 128)) = false := by rw [hx]; rfl
  simp only [e2, Bool.false_eq_true, if_false]
  refine wpAny_bind (wpAny_pure ?_)
  dsimp only
  refine wpAny_bind (wpAny_rule ?_)
  refine wpAny_bind (tl_text (s := { s with toks := s.toks + 1 + 1 }) hm hv ?_)
  dsimp only
  refine wpAny_pure ?_
  dsimp only
  refine wpAny_pure ?_
  dsimp only
  refine KFB.if_not (by rw [hx]; decide) ?_
  have e1 : List.foldl (fun acc (p : PySem.Str) => acc ++ p.cps) #[] (([x] : List PySem.Str)).reverse = x.cps := by simp
  rw [e1]
  exact wpAny_bind (wpAny_mkStr (wpAny_pure (h (s.toks + 1 + 1 + 1 + 1) (s.toks + 1 + 1 + 1 + 1 + 1) (by omega) (by omega))) (by show x.length ≤ _; rw [hx]; exact Nat.le_of_ble_eq_true rfl))
end
noncomputable def es114 (w : World) : Array DictEntry := match (hd.heap_1 w.params).lookup 114 with | some ⟨_, _, .dict es _, _⟩ => es | _ => #[]
noncomputable def ep114 (w : World) : Nat := match (hd.heap_1 w.params).lookup 114 with | some ⟨_, _, .dict _ n, _⟩ => n | _ => 0
theorem at114 (w : World) : (hd.heap_1 w.params).lookup 114 = some { cls := .type "dict", data := .dict (es114 w) (ep114 w) } := by kernel_rfl
noncomputable def chkKeys (es : Array DictEntry) : Bool := es.toList.all fun e => match e.key with | .int k _ => e.hash == hashInt k | _ => false
theorem chk114 (w : World) : chkKeys (es114 w) = true := by kernel_rfl
theorem keys_of {prog : Program} {w : World} {es : Array DictEntry} (h : chkKeys es = true) : KeysOf (intKind prog w) es := by
  intro e he
  have q := List.all_eq_true.mp h e (by simpa using he)
  cases hk : e.key with
  | int k t => rw [hk] at q; exact ⟨k, intKind_is _ _ _ _, (by simpa using q : e.hash = hashInt k)⟩
  | _ => rw [hk] at q; cases q
noncomputable def strOf : Value → PySem.Str
  | .str x _ => x
  | _ => Str.empty
theorem map114 {w : World} {h : Heap} (X : (hd.heap_1 w.params).In h) : h.MapOf (intKind P w) 114 (findBy Value.isInt (es114 w)) :=
  ⟨_, es114 w, ep114 w, X 114 _ (at114 w), ⟨rfl, rfl, rfl⟩, rfl, keys_of (chk114 w), fun k => congrArg (fun q => findBy q (es114 w) k) (show (intKind P w).is = Value.isInt from rfl)⟩
noncomputable def isStr' : Value → Bool
  | .str _ _ => true
  | _ => false
theorem as_text {v : Option Value} {x : PySem.Str} (h : v.map strOf = some x) (h2 : v.map isStr' = some true) : ∃ u, v = some (.str x u) := by
  cases v with
  | none => cases h
  | some v =>
    cases v <;> first | (cases h2; done) | (cases h; exact ⟨_, rfl⟩)
section
variable {w : World} {A : Around} {E : Value → Shared → Prop} {s : Shared} {h₀ : Heap} {L : Addr} {m : PySem.Str → Option Value} {news : List (Addr × Obj)} {Q : Value → Shared → Prop}
/-- str.translate of one sign that the table does not hold -/
theorem keep_K (c : Nat) {x : PySem.Str} {t : Tok} (F : Fr h₀ L s.heap m) (N : News h₀ L s.heap news) (X₀ : (hd.heap_1 w.params).In h₀) (hh : A.handled = none) (hx : x = ⟨#[c]⟩) (hc : c < 128) (hv : findBy Value.isInt (es114 w) (c : Int) = none)
    (h : ∀ t' h' tk, Fr h₀ L h' m → News h₀ L h' news → s.toks ≤ t' → t' < tk → Q (.str x t') { s with heap := h', toks := tk }) : wpAny (model P w) A (call (.builtin "str.translate") [.str x t, .ref 114]) Q E s := by
  subst hx
  refine wpAny_call_entry PySem.F.slot_str_translate (typeIs_str _ _ _) PySem.F.entry_str_translate ?_ (PySem.F.args_str_translate_2 _ _)
  exact tr_keep hc (by decide) hh (map114 (X₀.keeps F.keep)) hv fun h' e t' tk hn l1 l2 => ⟨_, rfl, h _ _ _ (F.keeps hn.keeps) (fun p hp => ⟨hn.keeps _ _ (N p hp).1, (N p hp).2⟩) l1 l2⟩
theorem text_K (c : Nat) {x y : PySem.Str} {t : Tok} (X₀ : (hd.heap_1 w.params).In h₀) (F : Fr h₀ L s.heap m) (hx : x = ⟨#[c]⟩) (hc : c < 128) (hy : y.length = 2) (hv : (findBy Value.isInt (es114 w) (c : Int)).map strOf = some y) (h2 : (findBy Value.isInt (es114 w) (c : Int)).map isStr' = some true)
    (h : ∀ t' tk, s.toks ≤ t' → t' < tk → Q (.str y t') { s with toks := tk }) : wpAny (model P w) A (call (.builtin "str.translate") [.str x t, .ref 114]) Q E s := by
  subst hx
  obtain ⟨u, hu⟩ := as_text hv h2
  refine wpAny_call_entry PySem.F.slot_str_translate (typeIs_str _ _ _) PySem.F.entry_str_translate ?_ (PySem.F.args_str_translate_2 _ _)
  exact tr_text hc hy (map114 (X₀.keeps F.keep)) hu fun t' tk l1 l2 => ⟨_, rfl, h _ _ l1 l2⟩
theorem getm_tr {M : Model} {x : PySem.Str} {t : Tok} {pl : Sem Bool} {Q : Value × List Value → Shared → Prop} (h : Q (.builtin "str.translate", [.str x t]) s) : wpAny M A (getMethod (.str x t) "translate" pl) Q E s := by
  with_reducible exact GM.of (.str x t) (typeIs_str _ _ _) PySem.F.slot_str_translate PySem.F.type_str_translate GM.noRef h
end
section
variable {w : World} {A : Around} {E : Value → Shared → Prop} {s : Shared} {h₀ : Heap} {L : Addr} {m : PySem.Str → Option Value} {news : List (Addr × Obj)} {Q : Value → Shared → Prop}
noncomputable def special (c : Nat) : Bool := (Str.ofString "()[]{}?*+-|^$\\.&~# \t\n\r").cps.toList.contains c || c == 11 || c == 12
theorem keep_X {x : PySem.Str} {t : Tok} (_hs : special (x.cps.getD 0 0) = false) (F : Fr h₀ L s.heap m) (N : News h₀ L s.heap news) (X₀ : (hd.heap_1 w.params).In h₀) (hh : A.handled = none) (hx : x = ⟨#[x.cps.getD 0 0]⟩) (hc : x.cps.getD 0 0 < 128) (hv : findBy Value.isInt (es114 w) ((x.cps.getD 0 0 : Nat) : Int) = none)
    (h : ∀ t' h' tk, Fr h₀ L h' m → News h₀ L h' news → s.toks ≤ t' → t' < tk → Q (.str x t') { s with heap := h', toks := tk }) : wpAny (model P w) A (call (.builtin "str.translate") [.str x t, .ref 114]) Q E s := keep_K _ F N X₀ hh hx hc hv h
theorem text_X {x : PySem.Str} {t : Tok} (_hs : special (x.cps.getD 0 0) = true) (F : Fr h₀ L s.heap m) (X₀ : (hd.heap_1 w.params).In h₀) (hx : x = ⟨#[x.cps.getD 0 0]⟩) (hc : x.cps.getD 0 0 < 128) (hv : (findBy Value.isInt (es114 w) ((x.cps.getD 0 0 : Nat) : Int)).map strOf = some (Str.ofString "\\" ++ x)) (h2 : (findBy Value.isInt (es114 w) ((x.cps.getD 0 0 : Nat) : Int)).map isStr' = some true)
    (hy : (Str.ofString "\\" ++ x).length = 2) (h : ∀ t' tk, s.toks ≤ t' → t' < tk → Q (.str (Str.ofString "\\" ++ x) t') { s with toks := tk }) : wpAny (model P w) A (call (.builtin "str.translate") [.str x t, .ref 114]) Q E s := text_K _ X₀ F hx hc hy hv h2 h
end
end
section
example : True := by
  k_with_none
  w_top off
  (k_with "k_room" => (first | exact room_of (by assumption) 0 rfl | exact room_of (by assumption) 1 rfl | exact room_of (by assumption) 2 rfl | exact room_of (by assumption) 3 rfl | exact room_of (by assumption) 4 rfl | exact room_of (by assumption) 5 rfl | exact room_of (by assumption) 6 rfl))
  (k_with "my enter" => ((first
    | (refine' code_def ?k1 ?k2 ?k3 ?k4 ?k5 ?kA ?kF ?kK ?k6 ?k7 ?k8 ?k9 ?kB ?_ ?c2 ?c3 ?c4 ?c5; (case kA => exact rfl); (case kF => exact rfl); (case kK => first | exact rfl | assumption); (case k1 => k_asm); (case k2 => k_asm); (case k3 => k_asm); (case k4 => k_asm); (case k5 => k_asm); (case k6 => k_is); (case k7 => k_is); (case k8 => k_room); (case k9 => first | exact BindsTo.of_eq rfl | exact binds_K (by k_in) rfl (by k_is) rfl rfl rfl | fail "k_enter: no rule for these arguments"); (case c5 => decide); (case kB => exact locs rfl); (case c2 => exact rfl); (case c3 => exact rfl); (case c4 => exact rfl); k_whole; intro g' L' h' FG' F' N' B' X' T'; (try dsimp only); (try k_lift B'); (try k_fold))
    | (refine' code_defC ?k1 ?k2 ?k3 ?k4 ?k5 ?kA ?kF ?kK ?k6 ?k7 ?k8 ?k9 ?kB ?kD ?_ ?c2 ?c3 ?c4; (case kA => exact rfl); (case kF => exact rfl); (case kK => first | exact rfl | assumption); (case k1 => k_asm); (case k2 => k_asm); (case k3 => k_asm); (case k4 => k_asm); (case k5 => k_asm); (case k6 => k_is); (case k7 => k_is); (case k8 => k_room); (case k9 => first | exact BindsTo.of_eq rfl | exact binds_K (by k_in) rfl (by k_is) rfl rfl rfl | fail "k_enter: no rule for these arguments"); (case kB => exact rfl); (case kD => decide +kernel); (case c2 => exact rfl); (case c3 => exact rfl); (case c4 => exact rfl); k_whole; intro g' L' h' tk' cells' FG' F' N' Y' B' X' T' l1; (try k_lt l1); k_cells Y'; (try simp only [List.cons_append, List.nil_append] at N'); (try dsimp only); (try k_lift B'); (try k_fold)))))
  (k_with "call builtin:len" => (((with_reducible show wpAny _ _ (call (Value.builtin _) [Value.str _ _]) _ _ _); refine len_str (by omega) ?_)))
  (k_with "SearchPost" => (((with_reducible show SearchPost _ _ _ _ _ _ _ _ _ (Flow.ret _) _); dsimp only [SearchPost])))
  (k_with "my sub" => (first | exact fun _ h => h | exact fun _ h => List.mem_cons_of_mem _ h | exact fun _ h => List.mem_cons_of_mem _ (List.mem_cons_of_mem _ h) | exact fun _ h => List.mem_cons_of_mem _ (List.mem_cons_of_mem _ (List.mem_cons_of_mem _ h))))
  (k_with "k_all" => (first | assumption | exact off_of (by assumption) (by omega)))
  (k_with "my le" => (first | exact le_of 0 rfl (by assumption) | exact le_of 1 rfl (by assumption) | exact le_of 2 rfl (by assumption) | exact le_of 3 rfl (by assumption) | exact le_of 6 rfl (by assumption) | exact le_of 4 rfl (by assumption) | exact le_of 5 rfl (by assumption)))
  (k_with "getMethod str" => ((k_here; with_reducible refine getm_tr ?_)))
  trivial
/-- what escape makes of one sign -/
noncomputable def escF (x : Str) : Str := if special (x.cps.getD 0 0) = true then Str.ofString "\\" ++ x else x
example : True := by
  (k_with "execs cons" => ((k_here; (first | (with_reducible show wpAny _ _ _ _ _ (Shared.mk _ _ _ (_ + _) _)) | (with_reducible show wpAny _ _ _ _ _ (Shared.mk _ _ _ (Shared.toks _) _))); refine gentoks (s.toks) (by first | omega | (dsimp only; omega) | exact Nat.le_add_right_of_le (by omega)) ?_; intro tk1 htk1)))
  (k_with "execs nil" => ((k_here; (first | (with_reducible show wpAny _ _ _ _ _ (Shared.mk _ _ _ (_ + _) _)) | (with_reducible show wpAny _ _ _ _ _ (Shared.mk _ _ _ (Shared.toks _) _))); refine gentoks (s.toks) (by first | omega | (dsimp only; omega) | exact Nat.le_add_right_of_le (by omega)) ?_; intro tk1 htk1)))
  trivial
theorem esc1_con (w : World) (news : List (Addr × Obj)) (x : Str) (t : Tok) (hx : x = ⟨#[x.cps.getD 0 0]⟩) (hc : x.cps.getD 0 0 < 128) (hkp : special (x.cps.getD 0 0) = false → findBy Value.isInt (es114 w) ((x.cps.getD 0 0 : Nat) : Int) = none)
    (ht : special (x.cps.getD 0 0) = true → (findBy Value.isInt (es114 w) ((x.cps.getD 0 0 : Nat) : Int)).map strOf = some (Str.ofString "\\" ++ x) ∧ (findBy Value.isInt (es114 w) ((x.cps.getD 0 0 : Nat) : Int)).map isStr' = some true) :
    ConT 480 w 124 [.str x t] news (fun _ => True) (fun t0 t9 v news' => news' = news ∧ ∃ t', v = .str (escF x) t' ∧ @LE.le Nat _ t0 t' ∧ @LT.lt Nat _ t' t9) := by
  intro dp un hdp hun gd cn cs a ccd cl outer A₀ base h₀ L m s Q E mean mg mb B F X N T hk _ hQ
  refine wpAny_call ?_
  k_dflt (refine' code_frz ?k1 ?k2 ?k3 ?k4 ?k5 ?kA ?kF ?kK ?k6 ?k7 ?k8 ?k9 ?kB ?_ ?c2 ?c3 ?c4 ?c5; (case kA => exact rfl); (case kF => exact rfl); (case kK => first | exact rfl | assumption); (case k1 => k_asm); (case k2 => k_asm); (case k3 => k_asm); (case k4 => k_asm); (case k5 => k_asm); (case k6 => k_is); (case k7 => k_is); (case k8 => k_room); (case k9 => first | exact BindsTo.of_eq rfl | exact binds_K (by k_in) rfl (by k_is) rfl rfl rfl | fail "k_enter: no rule for these arguments"); (case c5 => decide); (case kB => exact locs rfl); (case c2 => exact rfl); (case c3 => exact rfl); (case c4 => exact rfl); k_whole; intro g1 L1 hp1 FG1 F1 N1 B1 X1 T1 hn1; (try dsimp only))
  k_steps
  all_goals (try k_data)
  (rename Fr _ _ _ _ => lF'); (rename News _ _ _ _ => lN')
  cases hsp : special (x.cps.getD 0 0) with
  | false =>
    have e : escF x = x := if_neg (by rw [hsp]; exact Bool.false_ne_true)
    rw [e] at hQ
    k_dflt (refine keep_X hsp lF' lN' (by assumption) (by rfl) hx hc (hkp hsp) ?_)
    clear lF' lN'; intro t' h' tk' F' N' l1 l2
    dsimp only at l1 l2
    dsimp only
    k_steps
    intro hN
    exact hQ _ _ _ _ ⟨rfl, _, rfl, (by omega), (by omega)⟩ (by assumption) hN
  | true =>
    have e : escF x = Str.ofString "\\" ++ x := if_pos hsp
    rw [e] at hQ
    have hl : (Str.ofString "\\" ++ x).length = 2 := by rw [hx]; rfl
    k_dflt (refine text_X hsp lF' (by assumption) hx hc (ht hsp).1 (ht hsp).2 hl ?_)
    intro t' tk' l1 l2
    dsimp only at l1 l2
    dsimp only
    k_steps
    intro hN
    exact hQ _ _ _ _ ⟨rfl, _, rfl, (by omega), (by omega)⟩ (by assumption) hN
end
section
section
variable {prog : Program} {w : World} {A : Around} {E : Value → Shared → Prop} {s : Shared} {env : Env} {test : PySem.Expr} {body orelse : List Stmt} {Q : Flow → Shared → Prop}
noncomputable def WhlMine (prog : Program) (w : World) (A : Around) (E : Value → Shared → Prop) (env : Env) (test : PySem.Expr) (body orelse : List Stmt) (Q : Flow → Shared → Prop) (s : Shared) : Prop := WhlRest prog w A E env test body orelse Q 100 s
theorem whl_mine {pos : Pos} (h : WhlMine prog w A E env test body orelse Q s) : wpAny (model prog w) A (exec (.While test body orelse pos) env) Q E s := whl_start 100 h
/-- the end of a turn of a while statement -/
noncomputable def TurnW {ι : Type} (Inv : ι → Shared → Prop) (μ : ι → Nat) (k : ι) (Q : Flow → Shared → Prop) (f : Flow) (s : Shared) : Prop :=
  match f with
  | .ret v => Q (.ret v) s
  | .brk => Q .next s
  | _ => ∃ k', μ k' < μ k ∧ Inv k' s
theorem whl_ind {ι : Type} (Inv : ι → Shared → Prop) (μ : ι → Nat) (k : ι) (h0 : Inv k s)
    (turn : ∀ k s, Inv k s → wpAny (model prog w) A (isTrue test env (eval test env)) (fun b s₂ => WhlIf b (wpAny (model prog w) A (execs body env) (TurnW Inv μ k Q) E s₂) (wpAny (model prog w) A (execs orelse env) Q E s₂)) E s)
    (hE : PassesOwn (model prog w) A env E := by passes_own) : WhlMine prog w A E env test body orelse Q s := by
  have key : ∀ (n : Nat) (k : ι) (s : Shared), μ k ≤ n → Inv k s → WhlRest prog w A E env test body orelse Q 0 s := by
    intro n
    induction n with
    | zero =>
      intro k s hk hi
      refine whl_turn (k := 0) hE (wpAny_mono (turn k s hi) (fun b s₂ h₂ => ?_) fun _ _ e => e)
      cases b with
      | false => exact h₂
      | true =>
        refine wpAny_mono (show wpAny _ _ _ _ _ _ from h₂) (fun f s₃ h₃ => ?_) fun _ _ e => e
        cases f with
        | ret v => exact h₃
        | brk => exact h₃
        | next => obtain ⟨k', hk', _⟩ := h₃; omega
        | cont => obtain ⟨k', hk', _⟩ := h₃; omega
    | succ n ih =>
      intro k s hk hi
      refine whl_turn (k := 0) hE (wpAny_mono (turn k s hi) (fun b s₂ h₂ => ?_) fun _ _ e => e)
      cases b with
      | false => exact h₂
      | true =>
        refine wpAny_mono (show wpAny _ _ _ _ _ _ from h₂) (fun f s₃ h₃ => ?_) fun _ _ e => e
        cases f with
        | ret v => exact h₃
        | brk => exact h₃
        | next => obtain ⟨k', hk', hi'⟩ := h₃; exact ih k' s₃ (by omega) hi'
        | cont => obtain ⟨k', hk', hi'⟩ := h₃; exact ih k' s₃ (by omega) hi'
  exact key (μ k) k s (Nat.le_refl _) h0
theorem sub_last {value slice : PySem.Expr} {l : Addr} {vs : List Value} {x : Value} {u : Tok} {Q : Value → Shared → Prop} (hl : s.heap.IsList l (vs ++ [x]).toArray) (h : Q x s)
    (hs : subscripted slice false (.ref l) (.int (-1) u) = operate [.ref l, .int (-1) u] (getItem (.ref l) (.int (-1) u)) := by with_unfolding_all rfl) :
    wpAny (model prog w) A (subscriptTail value slice (.ref l) (.int (-1) u)) Q E s := by
  have e1 : ((vs ++ [x]).toArray.size : Int) = (vs.length : Int) + 1 := by simp
  have e2 : (-1 + ((vs ++ [x]).toArray.size : Int)).toNat = vs.length := by rw [e1]; omega
  refine tail_any hl.typeIs slot_list_getitem.lookup (wpAny_getItem_list_neg hl (by decide) (by rw [e1]; omega) (by decide) (x := x) ?_ h) hs
  rw [e2]; simp
theorem isNot_strs {M : Model} {a b : Str} {t u : Tok} {Q : Value → Shared → Prop} (h0 : @LT.lt Nat _ 0 t) (h1 : @LT.lt Nat _ 0 u) (h2 : @Ne Nat t u) (h3 : (a == b) = false) (h : Q (.bool true) s) : wpAny M A (compareOp .IsNot (.str a t) (.str b u)) Q E s := by
  show wpAny M A (do return .bool (!(← isSame (.str a t) (.str b u)))) Q E s
  refine wpAny_bind (wpAny_of_eq (a := false) (isSame_str_other a b t u ?_ ?_ h3) (wpAny_pure h))
  · rw [Bool.or_eq_false_iff]; exact ⟨beq_eq_false_iff_ne.mpr (Nat.ne_of_gt h0), beq_eq_false_iff_ne.mpr (Nat.ne_of_gt h1)⟩
  · exact beq_eq_false_iff_ne.mpr h2
end
end
section
open PySem.W.X
section
example : True := by
  k_with_none
  w_top off
  (k_with "x_close" => ((refine' hQ9 _ _ _ _ _ _ ?e ?m; (case m => assumption); (case e => first | rfl | (dsimp only; decide +kernel)))))
  trivial
theorem sub_star (w : World) (A : Around) (s : Shared) (X : (hd.heap_1 w.params).In s.heap) (f : Addr) (t : Tok) (fo : FuncData) (hf : s.heap.get? f = some { cls := .type "function", data := .func fo }) (Q E : Value → Shared → Prop)
   (hQ9 : ∀ a o x h tk u, x = Str.ofString "*" → Mem s.heap h [] [(a, o)] → Q (.str x u) { s with heap := h, toks := tk }) :
   wpAny (model P w) A (call (.builtin "re.Pattern.sub") [.ref 112, .ref f, .str (Str.ofString "*") t]) Q E s := by
  x_run
theorem sub_open (w : World) (A : Around) (s : Shared) (X : (hd.heap_1 w.params).In s.heap) (f : Addr) (t : Tok) (fo : FuncData) (hf : s.heap.get? f = some { cls := .type "function", data := .func fo }) (Q E : Value → Shared → Prop)
   (hQ9 : ∀ a o x h tk u, x = Str.ofString "[" → Mem s.heap h [] [(a, o)] → Q (.str x u) { s with heap := h, toks := tk }) :
   wpAny (model P w) A (call (.builtin "re.Pattern.sub") [.ref 112, .ref f, .str (Str.ofString "[") t]) Q E s := by
  x_run
end
section
variable {w : World} {A : Around} {E : Value → Shared → Prop} {s : Shared} {h₀ : Heap} {L : Addr} {m mg mb : Str → Option Value} {news own rest : List (Addr × Obj)} {Q : Value → Shared → Prop} {p : Program} {loose : List Str} {mean : ExcName → Option Value}
/-- sub on a text of one sign that the pattern does not match -/
theorem sub_K {c : Str} {f : Addr} {t : Tok} {fo : FuncData} (hc : c = Str.ofString "*" ∨ c = Str.ofString "[") (F : Fr h₀ L s.heap m) (N : News h₀ L s.heap news) (X₀ : (hd.heap_1 w.params).In h₀) (hf : s.heap.get? f = some { cls := .type "function", data := .func fo })
    (h : ∀ u h' tk, Fr h₀ L h' m → News h₀ L h' news → s.toks ≤ tk → Q (.str c u) { s with heap := h', toks := tk }) : wpAny (model P w) A (call (.builtin "re.Pattern.sub") [.ref 112, .ref f, .str c t]) Q E s := by
  have go : ∀ a o x h' tk u, x = c → Mem s.heap h' [] [(a, o)] → s.toks ≤ ({ s with heap := h', toks := tk } : Shared).toks → Q (.str x u) { s with heap := h', toks := tk } := fun a o x h' tk u e M hl => by
    have hk : ∀ b o, s.heap.get? b = some o → h'.get? b = some o := fun b o e => M.keep b o e (by simp [away])
    subst e
    exact h u h' tk (F.keeps hk) (fun q hq => ⟨hk _ _ (N q hq).1, (N q hq).2⟩) hl
  rcases hc with rfl | rfl
  · exact wpAny_with_toks (Nat.le_refl _) (sub_star w A s (X₀.keeps F.keep) f t fo hf _ _ go)
  · exact wpAny_with_toks (Nat.le_refl _) (sub_open w A s (X₀.keeps F.keep) f t fo hf _ _ go)
theorem slot_sub : Slot "re.Pattern" "sub" "re.Pattern.sub" :=
  .of (owner := "re.Pattern") (n := "sub") (by rw [typeLookup_type, builtinLookup_eq_fast]; kernel_rfl) (by decide +kernel) (by decide +kernel) (by decide +kernel)
    (by first | exact .inl (by decide +kernel) | exact .inr (by decide +kernel)) (by rw [isSubtype_type]; kernel_rfl)
theorem type_sub : typeOf (.builtin "re.Pattern.sub") = pure (.type "method_descriptor") := by show builtinType _ = _; rw [builtinType_eq_fast]; kernel_rfl
theorem plain_pat : PlainAttrs "re.Pattern" :=
  ⟨⟨"object.__getattribute__", by rw [typeLookup_type, builtinLookup_eq_fast]; kernel_rfl, by decide +kernel⟩, by rw [typeLookup_type, builtinLookup_eq_fast]; kernel_rfl⟩
theorem at112 (w : World) : ∃ o, List.lookup 112 (hd.heap_1 w.params) = some o ∧ o.cls = .type "re.Pattern" ∧ o.dict = none := ⟨_, rfl, rfl, rfl⟩
theorem getm_sub {pl : Sem Bool} {Q : Value × List Value → Shared → Prop} (X₀ : (hd.heap_1 w.params).In h₀) (F : Fr h₀ L s.heap m) (h : Q (.builtin "re.Pattern.sub", [.ref 112]) s) : wpAny (model P w) A (getMethod (.ref 112) "sub" pl) Q E s := by
  obtain ⟨o, e, hc, hd⟩ := at112 w
  have e' := F.keep _ _ (X₀ _ _ e)
  exact getMethod_builtin ⟨o, e', hc⟩ plain_pat slot_sub type_sub (fun a ea => by cases ea; exact ⟨o, e', hd⟩) h
/-- the code table's entry: empty, or it holds the one code -/
noncomputable def TabOk (ln cl : Nat) (o : Obj) : Prop := o = tabObj #[] ∨ ∃ c', o = tabObj #[rawInt ln, rawInt cl, .ref c']
theorem updF_mid {d : Addr} {o : Obj} (h2 : ∀ p ∈ rest, p.1 ≠ d) : ∀ {own : List (Addr × Obj)}, (∀ p ∈ own, p.1 ≠ d) → UpdF d o (own ++ (d, o) :: rest) (fun o' => own ++ (d, o') :: rest)
  | [], _ => .head h2
  | p :: own, h1 => .tail (h1 p (.head _)) (updF_mid h2 fun q hq => h1 q (.tail _ hq))
theorem lam_tab {M : Model} {o : Obj} {a c : Addr} {cn : Str} {cs : Scope} {cl clos : List (Str × Addr)} {name qual : Str} {params : Arguments} {body : Expr} {scope : Scope} {pos : Pos} {firstLine : Nat}
    (F : Fr h₀ L s.heap m) (N : News h₀ L s.heap (own ++ (126, o) :: rest)) (T : Top p loose mean mg mb h₀) (C : CodeHd h₀ c 126) (hT : TabOk pos.line pos.col o) (h1 : ∀ p ∈ own, p.1 ≠ 126) (h2 : ∀ p ∈ rest, p.1 ≠ 126)
    (hcl : closureFor scope (envX cn cs L a (.ref c) cl) = pure clos)
    (h : ∀ f fo h' tk o', TabOk pos.line pos.col o' → Fr h₀ L h' m → News h₀ L h' (own ++ (126, o') :: rest) → h'.get? f = some { cls := .type "function", data := .func fo } → s.toks ≤ tk → Q (.ref f) { s with heap := h', toks := tk }) :
    wpAny M A (makeFunction name qual params (.expr body) scope (envX cn cs L a (.ref c) cl) [] [] [] pos firstLine) Q E s := by
  rcases hT with rfl | ⟨c', rfl⟩
  · refine wpAny_with_toks (Nat.le_refl _) (kla_nest (ps := #[]) F N T C rfl (updF_mid h2 h1) trivial rfl hcl fun f c' oc vs t ctv h' tk F' N' _ _ _ _ hl => ?_)
    exact h f _ h' tk _ (.inr ⟨c', rfl⟩) F' (fun q hq => N' q (.tail _ (.tail _ hq))) (N' _ (.head _)).1 hl
  · refine wpAny_with_toks (Nat.le_refl _) (kla_hit (c' := c') (ps := #[rawInt pos.line, rawInt pos.col, .ref c']) F N T C rfl (List.mem_append_right _ (.head _)) trivial ?_ hcl fun f ctv h' tk F' N' _ hl => ?_)
    · simp [codeAmong, rawInt]
    · exact h f _ h' tk _ (.inr ⟨c', rfl⟩) F' (fun q hq => N' q (.tail _ hq)) (N' _ (.head _)).1 hl
end
end
section
example : True := by
  k_with_none
  w_top off
  (k_with "ite" => (k_closed; (first | (refine ite_pos (by with_reducible assumption) ?_) | (refine ite_neg (by with_reducible assumption) ?_) | (refine ite_isFalse (by with_reducible assumption) ?_) | k_dflt (refine ite_pos (by decide) ?_) | k_dflt (refine ite_neg (by decide) ?_) | (refine ite_pos (by k_dec) ?_) | (refine ite_neg (by k_dec) ?_))))
  (k_with "k_room" => (first | exact room_of (by assumption) 0 rfl | exact room_of (by assumption) 1 rfl | exact room_of (by assumption) 2 rfl | exact room_of (by assumption) 3 rfl | exact room_of (by assumption) 4 rfl | exact room_of (by assumption) 5 rfl | exact room_of (by assumption) 6 rfl))
  (k_with "my enter" => ((first
    | (refine' code_def ?k1 ?k2 ?k3 ?k4 ?k5 ?kA ?kF ?kK ?k6 ?k7 ?k8 ?k9 ?kB ?_ ?c2 ?c3 ?c4 ?c5; (case kA => exact rfl); (case kF => exact rfl); (case kK => first | exact rfl | assumption); (case k1 => k_asm); (case k2 => k_asm); (case k3 => k_asm); (case k4 => k_asm); (case k5 => k_asm); (case k6 => k_is); (case k7 => k_is); (case k8 => k_room); (case k9 => first | exact BindsTo.of_eq rfl | exact binds_K (by k_in) rfl (by k_is) rfl rfl rfl | fail "k_enter: no rule for these arguments"); (case c5 => decide); (case kB => exact locs rfl); (case c2 => exact rfl); (case c3 => exact rfl); (case c4 => exact rfl); k_whole; intro g' L' h' FG' F' N' B' X' T'; (try dsimp only); (try k_lift B'); (try k_fold))
    | (refine' code_defC ?k1 ?k2 ?k3 ?k4 ?k5 ?kA ?kF ?kK ?k6 ?k7 ?k8 ?k9 ?kB ?kD ?_ ?c2 ?c3 ?c4; (case kA => exact rfl); (case kF => exact rfl); (case kK => first | exact rfl | assumption); (case k1 => k_asm); (case k2 => k_asm); (case k3 => k_asm); (case k4 => k_asm); (case k5 => k_asm); (case k6 => k_is); (case k7 => k_is); (case k8 => k_room); (case k9 => first | exact BindsTo.of_eq rfl | exact binds_K (by k_in) rfl (by k_is) rfl rfl rfl | fail "k_enter: no rule for these arguments"); (case kB => exact rfl); (case kD => decide +kernel); (case c2 => exact rfl); (case c3 => exact rfl); (case c4 => exact rfl); k_whole; intro g' L' h' tk' cells' FG' F' N' Y' B' X' T' l1; (try k_lt l1); k_cells Y'; (try simp only [List.cons_append, List.nil_append] at N'); (try dsimp only); (try k_lift B'); (try k_fold)))))
  (k_with "call builtin:len" => (((with_reducible show wpAny _ _ (call (Value.builtin _) [Value.str _ _]) _ _ _); refine len_str (by omega) ?_)))
  (k_with "SearchPost" => (((with_reducible show SearchPost _ _ _ _ _ _ _ _ _ (Flow.ret _) _); dsimp only [SearchPost])))
  (k_with "my sub" => (first | exact fun _ h => h | exact fun _ h => List.mem_cons_of_mem _ h | exact fun _ h => List.mem_cons_of_mem _ (List.mem_cons_of_mem _ h) | exact fun _ h => List.mem_cons_of_mem _ (List.mem_cons_of_mem _ (List.mem_cons_of_mem _ h))))
  (k_with "k_all" => (first | assumption | exact off_of (by assumption) (by omega)))
  (k_with "my le" => (first | exact le_of 0 rfl (by assumption) | exact le_of 1 rfl (by assumption) | exact le_of 2 rfl (by assumption) | exact le_of 3 rfl (by assumption) | exact le_of 6 rfl (by assumption) | exact le_of 4 rfl (by assumption) | exact le_of 5 rfl (by assumption)))
  (k_with "getAttr ref" => ((k_here; (with_reducible show wpAny _ _ (getAttr (Value.ref _) (Str.ofString "append") _) _ _ _); (rename Fr _ _ _ _ => lF'); (rename News _ _ _ _ => lN'); k_dflt (refine getattr_app lF' lN' (by assumption) (by k_mem) ?_); clear lF' lN'; intro q' h' tk' F' N' o1' l1'; (try dsimp only at l1'); (try simp only [LCg.Off1, and_true] at o1'))))
  (k_with "callWith ref" => ((k_here; (with_reducible show wpAny _ _ (callWith _ (Value.ref _) _ (backTo _ (starEach (_ :: _) _)) []) _ _ _); k_dflt (refine' ap_callWith ?N ?M ?_; (case N => k_asm); (case M => k_mem); k_whole))))
  (k_with "And" => (((with_reducible show LapAt _ _ _ ∧ _); k_dflt (refine ⟨lap_at (by k_asm) (by k_mem), ?_⟩); (try dsimp only [List.nil_append, List.cons_append]))))
  (k_with "call ref" => ((k_here; (with_reducible show wpAny _ _ (call (Value.ref _) [_]) _ _ _); k_dflt (refine' ap_K ?k1 ?k2 ?k3 ?k4 ?_ ?z; (case k1 => k_asm); (case k2 => k_asm); (case k3 => k_mem); (case k4 => k_upd); (case z => first | size_fits | (rw [List.size_toArray, PySem.sizeLine_eq]; omega)); k_whole); intro h' F' N'; (try k_sweep))))
  (k_with "call ref" => ((k_here; (with_reducible show wpAny _ _ (call (Value.ref 124) [Value.str _ _]) _ _ _); (rename Fr _ _ _ _ => lF'); (rename News _ _ _ _ => lN'); k_dflt (refine (esc1_con _ _ _ _ (by first | assumption | decide +kernel) (by first | assumption | decide +kernel) (by first | assumption | exact fun h => absurd h (by decide +kernel) | exact fun _ => by kernel_rfl) (by first | assumption | exact fun h => absurd h (by decide +kernel) | exact fun _ => ⟨by kernel_rfl, by kernel_rfl⟩)).use lF' lN' (by with_unfolding_all rfl) (by k_extra "my le") (by k_extra "my le") (by assumption) (by assumption) (by assumption) (by rfl) trivial ?_); clear lF' lN'; intro v' news' h' tk' hp' F' N'; (obtain ⟨e1', t', e2', l1', l2'⟩ := hp'; subst e1' e2'; (try dsimp only at l1')))))
  (k_with "execs cons" => ((k_here; (first | (with_reducible show wpAny _ _ _ _ _ (Shared.mk _ _ _ (_ + _) _)) | (with_reducible show wpAny _ _ _ _ _ (Shared.mk _ _ _ (Shared.toks _) _))); refine gentoks (@HAdd.hAdd Nat Nat Nat _ t1 1) (by first | omega | (dsimp only; omega) | exact Nat.le_add_right_of_le (by omega)) ?_; intro tk1 htk1)))
  (k_with "execs nil" => ((k_here; (first | (with_reducible show wpAny _ _ _ _ _ (Shared.mk _ _ _ (_ + _) _)) | (with_reducible show wpAny _ _ _ _ _ (Shared.mk _ _ _ (Shared.toks _) _))); refine gentoks (@HAdd.hAdd Nat Nat Nat _ t1 1) (by first | omega | (dsimp only; omega) | exact Nat.le_add_right_of_le (by omega)) ?_; intro tk1 htk1)))
  (k_with "WhlIf" => (first | refine WhlIf.yes (decide_eq_true (by omega)) ?_ | refine WhlIf.no (decide_eq_false (by omega)) ?_))
  (k_with "exec While Compare" => ((k_here; k_dflt (refine whl_mine ?_))))
  trivial
noncomputable def MPost (prog : Program) (w : World) (A : Around) (E : Value → Shared → Prop) (env : Env) (test : PySem.Expr) (body orelse : List Stmt) (Q : Flow → Shared → Prop) (f : Flow) (s : Shared) : Prop :=
  match f with
  | .next => WhlMine prog w A E env test body orelse Q s
  | .cont => WhlMine prog w A E env test body orelse Q s
  | .brk => Q .next s
  | .ret v => Q (.ret v) s
theorem mine_turn {prog : Program} {w : World} {A : Around} {E : Value → Shared → Prop} {s : Shared} {env : Env} {test : PySem.Expr} {body orelse : List Stmt} {Q : Flow → Shared → Prop} (hE : PassesOwn (model prog w) A env E)
    (h : wpAny (model prog w) A (isTrue test env (eval test env)) (fun b s₂ => WhlIf b (wpAny (model prog w) A (execs body env) (MPost prog w A E env test body orelse Q) E s₂) (wpAny (model prog w) A (execs orelse env) Q E s₂)) E s) :
    WhlMine prog w A E env test body orelse Q s := by
  refine whl_turn (k := 99) hE (wpAny_mono h (fun b s₂ h₂ => ?_) fun _ _ e => e)
  cases b with
  | false => exact h₂
  | true =>
    refine wpAny_mono (show wpAny _ _ _ _ _ _ from h₂) (fun f s₃ h₃ => ?_) fun _ _ e => e
    cases f <;> exact h₃
theorem slice_T {prog : Program} {w : World} {A : Around} {s : Shared} {Q E : Value → Shared → Prop} {h₀ : Heap} {L : Addr} {m : Str → Option Value} {news : List (Addr × Obj)} {value slice : Expr} {x c : Str} {t : Tok} {i j : Int} {ui uj : Tok} (hF : Fr h₀ L s.heap m) (hN : News h₀ L s.heap news)
    (hc : Txt.slice x (some i) (some j) = c) (h : ∀ h' t' k, Fr h₀ L h' m → News h₀ L h' news → s.toks ≤ k → Q (.str c t') { s with heap := h', toks := k })
    (hs : subscripted slice false (.str x t) (.ref s.heap.objs.size) = operate [.ref s.heap.objs.size, .str x t] (getItem (.str x t) (.ref s.heap.objs.size)) := by with_unfolding_all rfl)
    (ht : ∀ r, letTemporaryGo value (.str x t) r = pure () := by intro _; with_unfolding_all rfl) (hsz : x.length ≤ sizeLine := by size_fits) :
    wpAny (model prog w) A (subscriptTail value slice (.str x t) (.ref s.heap.objs.size)) Q E { s with heap := s.heap.push { cls := .type "slice", data := .fields #[.int i ui, .int j uj, .none] } } := by
  refine wpAny_with_toks (n := s.toks) (Nat.le_refl _) (slice_strN_ss hF hN (fun h' t' k a b hl => ?_) hs ht hsz)
  rw [hc]
  exact h h' t' k a b hl
example : True := by
  (k_with "subscriptTail Name Slice str ref" => (((with_reducible show wpAny _ _ (subscriptTail _ (Expr.Slice (some _) (some _) none _) _ _) _ _ _); (with_reducible rename Fr _ _ _ _ => F'); (with_reducible rename News _ _ _ _ => N'); refine slice_T (s := ⟨_, _, _, _, _⟩) F' N' hsl ?_; clear F' N'; intro h8 t8 k8 F8 N8 hk8; dsimp only at hk8)))
  trivial
theorem notin_lit {prog : Program} {w : World} {A : Around} {s : Shared} {E Q : Value → Shared → Prop} {x y : Str} {t u : Tok} (b : Bool) (hb : (!(Builtin.Str.occurrences x y 0 x.length 1).isEmpty) = b) (h : Q (.bool !b) s) : wpAny (model prog w) A (compareOp .NotIn (.str y u) (.str x t)) Q E s := PyProof.Rows.notIn_str (by rw [hb]; exact h)
example : True := by
  (k_with "compareOp NotIn str str" => (first | refine notin_lit true (by decide +kernel) ?_ | refine notin_lit false (by decide +kernel) ?_))
  trivial
theorem rep_litT {prog : Program} {w : World} {A : Around} {s : Shared} {Q E : Value → Shared → Prop} {x y z : Str} {t u v : Tok} (hu : 1 ≤ u) (hv : 1 ≤ v) (huv : u ≠ v) (hyz : (y == z) = false) (hx : x.length ≤ 1048576) (hz : z.length ≤ 14) {r : Str} (hr : Txt.replace x y z = r)
    (h : ∀ t k, s.toks ≤ k → Q (.str r t) { s with toks := k }) : wpAny (model prog w) A (call (.builtin "str.replace") [.str x t, .str y u, .str z v]) Q E s :=
  wpAny_with_toks (Nat.le_refl _) (rep_lit hu hv huv hyz hx hz hr fun t k hl => h t k hl)
example : True := by
  (k_with "call builtin:str.replace" => ((k_here; (refine rep_litT (r := Str.ofString "*") (by first | assumption | (show @LE.le Nat _ 1 _; omega)) (by first | exact Nat.succ_le_succ (Nat.zero_le _) | omega | (dsimp only; omega)) (by first | exact Nat.ne_of_lt (Nat.lt_succ_self _) | omega | (dsimp only; omega)) (by decide +kernel) (by decide +kernel) (by decide +kernel) (by decide +kernel) ?_); intro _ _ ktk9; (try dsimp only at ktk9))))
  (k_with "call builtin:str.replace" => ((k_here; (refine rep_litT (r := Str.ofString "[") (by first | assumption | (show @LE.le Nat _ 1 _; omega)) (by first | exact Nat.succ_le_succ (Nat.zero_le _) | omega | (dsimp only; omega)) (by first | exact Nat.ne_of_lt (Nat.lt_succ_self _) | omega | (dsimp only; omega)) (by decide +kernel) (by decide +kernel) (by decide +kernel) (by decide +kernel) ?_); intro _ _ ktk9; (try dsimp only at ktk9))))
  (k_with "call builtin:re.Pattern.sub" => ((k_here; (rename Fr _ _ _ _ => lF'); (rename News _ _ _ _ => lN'); k_dflt (refine sub_K (.inl rfl) lF' lN' (by assumption) (by assumption) ?_); clear lF' lN'; intro u8 h8 k8 F8 N8 hk8; (try dsimp only at hk8))))
  (k_with "call builtin:re.Pattern.sub" => ((k_here; (rename Fr _ _ _ _ => lF'); (rename News _ _ _ _ => lN'); k_dflt (refine sub_K (.inr rfl) lF' lN' (by assumption) (by assumption) ?_); clear lF' lN'; intro u8 h8 k8 F8 N8 hk8; (try dsimp only at hk8))))
  (k_with "call ref" => ((k_here; (with_reducible show wpAny _ _ (call (Value.ref _) [Value.str (Str.empty ++ _ ++ _ ++ _) _]) _ _ _); (rw [show Str.empty ++ Str.ofString "[" ++ Str.ofString "*" ++ Str.ofString "]" = Str.ofString "[*]" from by decide +kernel]))))
  (k_with "call ref" => ((k_here; (with_reducible show wpAny _ _ (call (Value.ref _) [Value.str (Str.empty ++ _ ++ _ ++ _) _]) _ _ _); (rw [show Str.empty ++ Str.ofString "[" ++ (Str.ofString "\\" ++ Str.ofString "[") ++ Str.ofString "]" = Str.ofString "[\\[]" from by decide +kernel]))))
  trivial
theorem truthy_T {prog : Program} {w : World} {A : Around} {s : Shared} {E : Value → Shared → Prop} {Q : Bool → Shared → Prop} {x : Str} {t : Tok} (e : ((x.length : Int) != 0) = true) (hl : x.length ≤ 16777216) (h : ∀ k, s.toks ≤ k → Q true { s with toks := k }) : wpAny (model prog w) A (PySem.truthy (.str x t)) Q E s :=
  wpAny_with_toks (Nat.le_refl _) (KXt.truthy e hl fun k hl => h k hl)
example : True := by
  (k_with "truthy str" => ((k_here; (with_reducible show wpAny _ _ (PySem.truthy (Value.str _ _)) _ _ _); refine truthy_T (by decide +kernel) (by decide +kernel) ?_; intro k9 hk9; (try dsimp only at hk9))))
  trivial
theorem field_T {prog : Program} {w : World} {A : Around} {s : Shared} {E : Value → Shared → Prop} {Q : Value → Shared → Prop} {x : Str} {t : Tok} (hl : x.length ≤ 1048576) (h : ∀ t' k, s.toks ≤ k → Q (.str x t') { s with toks := k }) : wpAny (model prog w) A (formatField (.str x t) Str.empty) Q E s :=
  wpAny_formatField_str (h _ _ (Nat.le_refl _)) (h _ _ (Nat.le_succ _)) (by rw [sizeLine_eq]; omega)
theorem add_T {prog : Program} {w : World} {A : Around} {s : Shared} {E : Value → Shared → Prop} {Q : Value → Shared → Prop} {x y : Str} {t u : Tok} (hl : x.length + y.length ≤ 1048576) (h : ∀ t' k, s.toks ≤ k → Q (.str (x ++ y) t') { s with toks := k }) : wpAny (model prog w) A (binaryOp .Add (.str x t) (.str y u)) Q E s :=
  wpAny_with_toks (Nat.le_refl _) (PyProof.Rows.add_str (fun t' k hl => h t' k hl) (by rw [sizeLine_eq]; omega))
example : True := by
  (k_with "binaryOp Add str str" => ((k_here; (with_reducible show wpAny _ _ (binaryOp Operator.Add (Value.str _ _) (Value.str _ _)) _ _ _); refine add_T (by decide +kernel) ?_; intro t9 k9 hk9; (try dsimp only at hk9))))
  (k_with "formatField str" => ((k_here; refine field_T (by decide +kernel) ?_; intro t9 k9 hk9; (try dsimp only at hk9))))
  (k_with "MPost" => (dsimp only [MPost]))
  (k_with "exec While BoolOp" => ((k_here; k_dflt (refine whl_mine ?_))))
  (k_with "eval Lambda" => (fail "stop"))
  (k_with "getMethod ref" => ((k_here; (with_reducible show wpAny _ _ (getMethod (Value.ref 112) _ _) _ _ _); (rename Fr _ _ _ _ => lF'); refine getm_sub (by assumption) lF' ?_)))
  trivial
/-- a sign that escape knows -/
noncomputable def SignOk (w : World) (c : Str) : Prop := c = ⟨#[c.cps.getD 0 0]⟩ ∧ c.cps.getD 0 0 < 128 ∧ (special (c.cps.getD 0 0) = false → findBy Value.isInt (es114 w) ((c.cps.getD 0 0 : Nat) : Int) = none) ∧
  (special (c.cps.getD 0 0) = true → (findBy Value.isInt (es114 w) ((c.cps.getD 0 0 : Nat) : Int)).map strOf = some (Str.ofString "\\" ++ c) ∧ (findBy Value.isInt (es114 w) ((c.cps.getD 0 0 : Nat) : Int)).map isStr' = some true)
/-- what the loop still appends from place i on -/
inductive RestT (w : World) (pat : Str) : Nat → List Str → Prop
  | done : RestT w pat pat.length []
  | star (i : Nat) : i + 1 = pat.length → (Txt.item pat (i : Int) == Str.ofString "*") = true → RestT w pat i [Str.ofString "many"]
  | cls1 (i : Nat) (c : Str) (ps : List Str) : i + 2 < pat.length → (Txt.item pat (i : Int) == Str.ofString "*") = false → (Txt.item pat (i : Int) == Str.ofString "?") = false → (Txt.item pat (i : Int) == Str.ofString "[") = true → (Txt.item pat ((i : Int) + 1) == Str.ofString "!") = false → (Txt.item pat ((i : Int) + 1) == Str.ofString "]") = false → (Txt.item pat ((i : Int) + 1 + 1) == Str.ofString "]") = true → Txt.slice pat (some ((i : Int) + 1)) (some ((i : Int) + 1 + 1)) = c → c = Str.ofString "*" → RestT w pat (i + 3) ps → RestT w pat i (Str.ofString "[*]" :: ps)
  | cls2 (i : Nat) (c : Str) (ps : List Str) : i + 2 < pat.length → (Txt.item pat (i : Int) == Str.ofString "*") = false → (Txt.item pat (i : Int) == Str.ofString "?") = false → (Txt.item pat (i : Int) == Str.ofString "[") = true → (Txt.item pat ((i : Int) + 1) == Str.ofString "!") = false → (Txt.item pat ((i : Int) + 1) == Str.ofString "]") = false → (Txt.item pat ((i : Int) + 1 + 1) == Str.ofString "]") = true → Txt.slice pat (some ((i : Int) + 1)) (some ((i : Int) + 1 + 1)) = c → c = Str.ofString "[" → RestT w pat (i + 3) ps → RestT w pat i (Str.ofString "[\\[]" :: ps)
  | sign (i : Nat) (ps : List Str) : i < pat.length → (Txt.item pat (i : Int) == Str.ofString "*") = false → (Txt.item pat (i : Int) == Str.ofString "?") = false → (Txt.item pat (i : Int) == Str.ofString "[") = false → SignOk w (Txt.item pat (i : Int)) → (escF (Txt.item pat (i : Int)) == Str.ofString "many") = false →
      RestT w pat (i + 1) ps → RestT w pat i (escF (Txt.item pat (i : Int)) :: ps)
noncomputable abbrev sI := Str.ofString "i"
noncomputable abbrev sN := Str.ofString "n"
noncomputable abbrev sA := Str.ofString "add"
noncomputable abbrev sR := Str.ofString "res"
noncomputable abbrev sP := Str.ofString "pat"
noncomputable abbrev sS := Str.ofString "STAR"
noncomputable abbrev sQ := Str.ofString "QUESTION_MARK"
/-- the loop's names -/
noncomputable abbrev trM (pat : Str) (t t1 t2 tn ti : Tok) (l q : Addr) (i : Nat) (u : Str → Option Value) : Str → Option Value := fun z =>
  if z = Str.ofString "i" then some (.int (i : Int) ti) else if z = Str.ofString "n" then some (.int (pat.length : Int) tn) else if z = Str.ofString "add" then some (.ref q) else if z = Str.ofString "res" then some (.ref l)
  else if z = Str.ofString "pat" then some (.str pat t) else if z = Str.ofString "STAR" then some (.str (Str.ofString "many") t1) else if z = Str.ofString "QUESTION_MARK" then some (.str (Str.ofString "any") t2) else u z
theorem trM_of {pat : Str} {t t1 t2 tn ti : Tok} {l q : Addr} {i : Nat} {m : Str → Option Value} (hi : m sI = some (.int (i : Int) ti)) (hn : m sN = some (.int (pat.length : Int) tn)) (ha : m sA = some (.ref q)) (hr : m sR = some (.ref l)) (hp : m sP = some (.str pat t))
    (hs : m sS = some (.str (Str.ofString "many") t1)) (hq : m sQ = some (.str (Str.ofString "any") t2)) : m = trM pat t t1 t2 tn ti l q i m := by
  funext z
  unfold trM
  by_cases e : z = Str.ofString "i"
  · rw [if_pos e, e]; exact hi
  rw [if_neg e]
  by_cases e : z = Str.ofString "n"
  · rw [if_pos e, e]; exact hn
  rw [if_neg e]
  by_cases e : z = Str.ofString "add"
  · rw [if_pos e, e]; exact ha
  rw [if_neg e]
  by_cases e : z = Str.ofString "res"
  · rw [if_pos e, e]; exact hr
  rw [if_neg e]
  by_cases e : z = Str.ofString "pat"
  · rw [if_pos e, e]; exact hp
  rw [if_neg e]
  by_cases e : z = Str.ofString "STAR"
  · rw [if_pos e, e]; exact hs
  rw [if_neg e]
  by_cases e : z = Str.ofString "QUESTION_MARK"
  · rw [if_pos e, e]; exact hq
  rw [if_neg e]
theorem fr_eq {g h : Heap} {L : Addr} {m m' : Str → Option Value} (F : Fr g L h m) (e : m = m') : Fr g L h m' := e ▸ F
theorem off1_mem {D : Addr} : ∀ {l : List (Addr × Obj)}, LCg.Off1 D l → ∀ p ∈ l, p.1 ≠ D
  | [], _, _, h => by cases h
  | q :: r, h, p, hp => by
    rcases List.mem_cons.mp hp with rfl | hp
    · exact h.1
    · exact off1_mem h.2 p hp
theorem off_swap {l d : Addr} {o o' : Obj} {r : List (Addr × Obj)} (h : ∀ p ∈ (d, o) :: r, p.1 ≠ l) : ∀ p ∈ (d, o') :: r, p.1 ≠ l := fun p hp => by
  rcases List.mem_cons.mp hp with rfl | hp
  · exact h (d, o) (.head _)
  · exact h p (.tail _ hp)
noncomputable def NwOk (news0 news : List (Addr × Obj)) : Prop := ∃ o, TabOk 156 39 o ∧ news = (126, o) :: news0
noncomputable def TrInv (w : World) (g1 : Heap) (L1 : Addr) (s0 : Shared) (news0 : List (Addr × Obj)) (pat : Str) (t t1 t2 : Tok) (parts : List Str) (k : Nat × List Str) (st : Shared) : Prop :=
  ∃ news ps0 vs n tn ti l q u h tk, NwOk news0 news ∧ st = { s0 with heap := h, toks := tk } ∧ @LT.lt Nat _ t1 tk ∧ (k.2 ≠ [] → ∀ v ∈ vs, ∃ x tx, v = .str x tx ∧ @LT.lt Nat _ t1 tx ∧ (x == Str.ofString "many") = false) ∧ RestT w pat k.1 k.2 ∧ ps0 ++ k.2 = parts ∧ StrsAre vs ps0 ∧ vs.length ≤ k.1 ∧ k.1 ≤ pat.length ∧ (@Ne Nat q l) ∧ (∀ p ∈ news, p.1 ≠ l) ∧ (∀ p ∈ news, p.1 ≠ q) ∧
    Fr g1 L1 h (trM pat t t1 t2 tn ti l q k.1 u) ∧ News g1 L1 h ((q, lap l) :: (l, W.listOf (List.toArray vs) n) :: news)
theorem tr_step {w : World} {g1 : Heap} {L1 : Addr} {s0 : Shared} {news0 news : List (Addr × Obj)} {pat : Str} {t t1 t2 tn ti : Tok} {parts ps' ps0 : List Str} {i' : Nat} {vs : List Value} {n : Nat} {l q : Addr} {m : Str → Option Value} {h : Heap} {tk : Nat} {x : Str} {tx : Tok}
    (lF : Fr g1 L1 h m) (h1 : m sI = some (.int (i' : Int) ti)) (h2 : m sN = some (.int (pat.length : Int) tn)) (h3 : m sA = some (.ref q)) (h4 : m sR = some (.ref l)) (h5 : m sP = some (.str pat t))
    (h6 : m sS = some (.str (Str.ofString "many") t1)) (h7 : m sQ = some (.str (Str.ofString "any") t2)) (N : News g1 L1 h ((q, lap l) :: (l, W.listOf (vs.toArray.push (.str x tx)) n) :: news))
    (hx : ps' ≠ [] → @LT.lt Nat _ t1 tx ∧ (x == Str.ofString "many") = false) (htk : @LT.lt Nat _ t1 tk) (hvt : ps' ≠ [] → ∀ v ∈ vs, ∃ x tx, v = .str x tx ∧ @LT.lt Nat _ t1 tx ∧ (x == Str.ofString "many") = false) (hR : RestT w pat i' ps') (hps : ps0 ++ x :: ps' = parts) (hvs : StrsAre vs ps0) (hlen : vs.length + 1 ≤ i') (hi : i' ≤ pat.length) (hql : @Ne Nat q l) (hnl : ∀ p ∈ news, p.1 ≠ l) (hnq : ∀ p ∈ news, p.1 ≠ q) (hnw : NwOk news0 news) :
    TrInv w g1 L1 s0 news0 pat t t1 t2 parts (i', ps') { s0 with heap := h, toks := tk } := by
  refine ⟨news, ps0 ++ [x], vs ++ [.str x tx], n, tn, ti, l, q, m, h, tk, hnw, rfl, htk, (fun hne v hv => ?_), hR, (by rw [← hps, List.append_assoc]; rfl), kct_snoc hvs, (by rw [List.length_append]; exact hlen), hi, hql, hnl, hnq, fr_eq lF (trM_of h1 h2 h3 h4 h5 h6 h7), ?_⟩
  · rcases List.mem_append.mp hv with hv | hv
    · exact hvt hne v hv
    · rw [List.mem_singleton.mp hv]; exact ⟨_, _, rfl, hx hne⟩
  · rw [← List.push_toArray]; exact N
namespace Htr_con
noncomputable def Pre (w : World) (news0 : List (Addr × Obj)) (news : List (Addr × Obj)) (pat : Str) (parts : List Str) (t : Tok) (t1 : Tok) (t2 : Tok) (cd : CD) : Prop :=
  (NwOk news0 news) → (∀ p ∈ news0, p.1 ≠ 126) → (Small pat) → (RestT w pat 0 parts) → cd.OkT 470 w 131 [.str pat t, .str (Str.ofString "many") t1, .str (Str.ofString "any") t2] news (fun t0 => @LE.le Nat _ 1 t1 ∧ @LT.lt Nat _ t1 t0) (fun _ _ v news' => ∃ a vs n news1, v = .ref a ∧ news' = (a, W.listOf (List.toArray vs) n) :: news1 ∧ NwOk news0 news1 ∧ StrsAre vs parts ∧ (∀ p ∈ news1, p.1 ≠ a))
noncomputable abbrev Dat : Type := World × (List (Addr × Obj)) × (List (Addr × Obj)) × Str × (List Str) × Tok × Tok × Tok × CD
noncomputable def d₀ : Dat := (wd, [], [], (Str.ofString ""), [], (0 : Nat), (0 : Nat), (0 : Nat), CD.d)
@[irreducible] noncomputable def z₀ : Dat := eps d₀ fun z => ¬ Pre z.1 z.2.1 z.2.2.1 z.2.2.2.1 z.2.2.2.2.1 z.2.2.2.2.2.1 z.2.2.2.2.2.2.1 z.2.2.2.2.2.2.2.1 z.2.2.2.2.2.2.2.2
@[irreducible] noncomputable def w : World := z₀.1
@[irreducible] noncomputable def news0 : List (Addr × Obj) := z₀.2.1
@[irreducible] noncomputable def news : List (Addr × Obj) := z₀.2.2.1
@[irreducible] noncomputable def pat : Str := z₀.2.2.2.1
@[irreducible] noncomputable def parts : List Str := z₀.2.2.2.2.1
@[irreducible] noncomputable def t : Tok := z₀.2.2.2.2.2.1
@[irreducible] noncomputable def t1 : Tok := z₀.2.2.2.2.2.2.1
@[irreducible] noncomputable def t2 : Tok := z₀.2.2.2.2.2.2.2.1
@[irreducible] noncomputable def cd : CD := z₀.2.2.2.2.2.2.2.2
@[irreducible] noncomputable def ent : (B : Heap → Addr → Heap → Prop) ×' ((∀ g L h, B g L h) → Pre w news0 news pat parts t t1 t2 cd) := by
  apply PSigma.mk
  intro hB
  intro hnw hn0 hpat hrest hdp hun B F X N T hpre hQ
  have hk : (⟨.function, cd.cnm, cd.cg, cd.cc, cd.cm⟩ : Scope).kind = .function := rfl
  obtain ⟨ht1, ht2⟩ := hpre
  refine wpAny_call ?_
  k_dflt (refine' code_led ?k1 ?k2 ?k3 ?k4 ?k5 ?kA ?kF ?kK ?k6 ?k7 ?k8 ?k9 ?kB ?_ ?c2 ?c3 ?c4 ?c5; (case kA => exact rfl); (case kF => exact rfl); (case kK => first | exact rfl | assumption); (case k1 => k_asm); (case k2 => k_asm); (case k3 => k_asm); (case k4 => k_asm); (case k5 => k_asm); (case k6 => k_is); (case k7 => k_is); (case k8 => k_room); (case k9 => first | exact BindsTo.of_eq rfl | exact binds_K (by k_in) rfl (by k_is) rfl rfl rfl | fail "k_enter: no rule for these arguments"); (case c5 => decide); (case kB => exact locs rfl); (case c2 => exact rfl); (case c3 => exact rfl); (case c4 => exact rfl); k_whole; intro g1 L1 hp1 FG1 F1 N1 B1 X1 T1 l1; (try dsimp only))
  clear hk
  revert hnw hn0 hpat hrest hdp hun B F X N T hQ ht1 ht2 FG1 F1 N1 B1 X1 T1 l1
  exact hB g1 L1 hp1
noncomputable abbrev Dat₂ : Type := Heap × Addr × Heap
@[irreducible] noncomputable def z₂ : Dat₂ := eps ({}, (0 : Nat), {}) fun z => ¬ ent.1 z.1 z.2.1 z.2.2
@[irreducible] noncomputable def g1 : Heap := z₂.1
@[irreducible] noncomputable def L1 : Addr := z₂.2.1
@[irreducible] noncomputable def hp1 : Heap := z₂.2.2
theorem body : ent.1 g1 L1 hp1 := by
  delta ent
  intro hnw hn0 hpat hrest hdp hun B F X N T hQ ht1 ht2 FG1 F1 N1 B1 X1 T1 l1
  have hk : (⟨.function, cd.cnm, cd.cg, cd.cc, cd.cm⟩ : Scope).kind = .function := rfl
  k_steps
  all_goals (try k_data)
  (rename Fr _ _ _ _ => lF'); (rename News _ _ _ _ => lN'); (rename _ ∧ LCg.Off1 _ _ => ho)
  refine whl_ind (TrInv w g1 L1 cd.s news0 pat t t1 t2 parts) (fun k => pat.length - k.1) (0, parts) ?init ?turn
  case init =>
    rename ∀ p ∈ news, p.1 < _ => hlt
    refine ⟨news, [], [], _, _, _, _, _, _, _, _, hnw, rfl, (by omega), (fun _ _ h => by cases h), hrest, rfl, .nil, Nat.le_refl _, Nat.zero_le _, Ne.symm ho.1, fun p hp => Nat.ne_of_lt (hlt p hp), off1_mem ho.2, fr_eq lF' (trM_of rfl rfl rfl rfl rfl rfl rfl), cb_drop lN' fun _ h => .tail _ h⟩
  case turn =>
    clear lF' lN' ho hnw
    rintro ⟨i, ps⟩ st ⟨news, ps0, vs, n, tn, ti, l, q, u, h, tk, hnw, rfl, htk, hvt, hR, hps, hvs, hlen, hile, hql, hnl, hnq, F2, N2⟩
    dsimp only at *
    cases hR with
    | done =>
      k_steps
      · exact hQ _ _ _ _ ⟨_, _, _, _, rfl, rfl, hnw, (by rw [← hps, List.append_nil]; exact hvs), hnl⟩ (by assumption) (cb_drop (by assumption) fun _ h => .tail _ h)
      · exact absurd rfl (by assumption : (pat.length : Int) ≠ (pat.length : Int))
    | star _ hi c1 =>
      rcases List.eq_nil_or_concat vs with rfl | ⟨vs', v9, rfl⟩
      · k_steps
        (rename Fr _ _ _ _ => lF'); (rename News _ _ _ _ => lN')
        exact ⟨(i + 1, []), (by dsimp only; omega), tr_step (vs := []) lF' rfl rfl rfl rfl rfl rfl rfl lN' (fun h => absurd rfl h) (by first | omega | (dsimp only; omega)) (fun h => absurd rfl h) (hi ▸ .done) hps hvs (by show 1 ≤ i + 1; omega) (by omega) hql hnl hnq hnw⟩
      · simp only [List.concat_eq_append] at hvs hlen N2 hvt
        obtain ⟨x9, tx9, rfl, l9, d9⟩ := hvt (by simp) v9 (by simp)
        k_steps
        (rename News _ _ _ _ => lN')
        refine wpAny_truthy_list (items := (vs' ++ [Value.str x9 tx9]).toArray) ⟨_, (lN' _ (.tail _ (.head _))).1, rfl, _, rfl⟩ (by rw [List.size_toArray]; omega) ?_
        have e9 : (vs' ++ [Value.str x9 tx9]).toArray.isEmpty = false := by simp
        rw [e9]
        dsimp only
        k_steps
        refine sub_last (vs := vs') (x := Value.str x9 tx9) ⟨_, (lN' _ (.tail _ (.head _))).1, rfl, _, rfl⟩ ?_
        dsimp only
        k_steps
        refine isNot_strs (by omega) (by omega) (by omega) d9 ?_
        k_steps
        (rename Fr _ _ _ _ => lF'); (rename News _ _ _ _ => lN')
        exact ⟨(i + 1, []), (by dsimp only; omega), tr_step lF' rfl rfl rfl rfl rfl rfl rfl lN' (fun h => absurd rfl h) (by first | omega | (dsimp only; omega)) (fun h => absurd rfl h) (hi ▸ .done) hps hvs (by omega) (by omega) hql hnl hnq hnw⟩
    | sign _ ps hi c1 c2 c3 hsign c4 hR' =>
      obtain ⟨g1', g2', g3', g4'⟩ := hsign
      k_steps
      (rename Fr _ _ _ _ => lF'); (rename News _ _ _ _ => lN')
      exact ⟨(i + 1, ps), (by dsimp only; omega), tr_step lF' rfl rfl rfl rfl rfl rfl rfl lN' (fun _ => ⟨by omega, c4⟩) (by first | omega | (dsimp only; omega)) (fun _ => hvt (by simp)) hR' hps hvs (by omega) hi hql hnl hnq hnw⟩
    | cls1 _ c ps hi c1 c2 c3 c4 c5 c6 hsl hc hR' =>
      subst hc
      k_steps
      have d5 : (Txt.item pat ((i : Int) + 1) != Str.ofString "]") = true := by rw [bne, c5]; rfl
      have d6 : (Txt.item pat ((i : Int) + 1 + 1) != Str.ofString "]") = false := by rw [bne, c6]; rfl
      refine mine_turn (by with_unfolding_all passes_own) ?_
      k_steps
      refine mine_turn (by with_unfolding_all passes_own) ?_
      k_steps

      (rename Fr g1 L1 _ _ => lF'); (rename News g1 L1 _ _ => lN')
      obtain ⟨o, hTo, rfl⟩ := hnw
      k_dflt (refine kla_eval (by rfl) ?_)
      k_dflt (refine lam_tab (own := [(q, lap l), (l, W.listOf (List.toArray vs) n)]) (rest := news0) lF' lN' T1 (codeHd_of_K (c := 130) X1 (by kernel_rfl)) hTo ?_ hn0 (by rfl) ?_)
      · intro p hp
        rcases List.mem_cons.mp hp with rfl | hp
        · exact Ne.symm (hnq _ (.head _))
        rcases List.mem_cons.mp hp with rfl | hp
        · exact Ne.symm (hnl _ (.head _))
        · cases hp
      clear lF' lN'
      intro f8 fo8 h8 k8 o8 hTo8 F8 N8 hf8 hk8
      dsimp only at hk8
      simp only [List.cons_append, List.nil_append] at N8
      have hnl8 : ∀ p ∈ ((126, o8) :: news0 : List (Addr × Obj)), p.1 ≠ l := off_swap hnl
      have hnq8 : ∀ p ∈ ((126, o8) :: news0 : List (Addr × Obj)), p.1 ≠ q := off_swap hnq
      clear hnl hnq
      k_steps
      (rename Fr g1 L1 _ _ => lF'); (rename News g1 L1 _ _ => lN')
      exact ⟨(i + 3, ps), (by dsimp only; omega), tr_step lF' rfl rfl rfl rfl rfl rfl rfl (cb_drop lN' fun _ h => .tail _ h) (fun _ => ⟨by omega, by decide +kernel⟩) (by first | omega | (dsimp only; omega)) (fun _ => hvt (by simp)) hR' hps hvs (by omega) (by omega) hql hnl8 hnq8 ⟨o8, hTo8, rfl⟩⟩
    | cls2 _ c ps hi c1 c2 c3 c4 c5 c6 hsl hc hR' =>
      subst hc
      k_steps
      have d5 : (Txt.item pat ((i : Int) + 1) != Str.ofString "]") = true := by rw [bne, c5]; rfl
      have d6 : (Txt.item pat ((i : Int) + 1 + 1) != Str.ofString "]") = false := by rw [bne, c6]; rfl
      refine mine_turn (by with_unfolding_all passes_own) ?_
      k_steps
      refine mine_turn (by with_unfolding_all passes_own) ?_
      k_steps

      (rename Fr g1 L1 _ _ => lF'); (rename News g1 L1 _ _ => lN')
      obtain ⟨o, hTo, rfl⟩ := hnw
      k_dflt (refine kla_eval (by rfl) ?_)
      k_dflt (refine lam_tab (own := [(q, lap l), (l, W.listOf (List.toArray vs) n)]) (rest := news0) lF' lN' T1 (codeHd_of_K (c := 130) X1 (by kernel_rfl)) hTo ?_ hn0 (by rfl) ?_)
      · intro p hp
        rcases List.mem_cons.mp hp with rfl | hp
        · exact Ne.symm (hnq _ (.head _))
        rcases List.mem_cons.mp hp with rfl | hp
        · exact Ne.symm (hnl _ (.head _))
        · cases hp
      clear lF' lN'
      intro f8 fo8 h8 k8 o8 hTo8 F8 N8 hf8 hk8
      dsimp only at hk8
      simp only [List.cons_append, List.nil_append] at N8
      have hnl8 : ∀ p ∈ ((126, o8) :: news0 : List (Addr × Obj)), p.1 ≠ l := off_swap hnl
      have hnq8 : ∀ p ∈ ((126, o8) :: news0 : List (Addr × Obj)), p.1 ≠ q := off_swap hnq
      clear hnl hnq
      k_steps
      (rename Fr g1 L1 _ _ => lF'); (rename News g1 L1 _ _ => lN')
      exact ⟨(i + 3, ps), (by dsimp only; omega), tr_step lF' rfl rfl rfl rfl rfl rfl rfl (cb_drop lN' fun _ h => .tail _ h) (fun _ => ⟨by omega, by decide +kernel⟩) (by first | omega | (dsimp only; omega)) (fun _ => hvt (by simp)) hR' hps hvs (by omega) (by omega) hql hnl8 hnq8 ⟨o8, hTo8, rfl⟩⟩
theorem main : Pre w news0 news pat parts t t1 t2 cd := PSigma.snd ent (eps_all3 (P := ent.1) (z := z₂) (by delta z₂; exact rfl) (by delta g1; exact rfl) (by delta L1; exact rfl) (by delta hp1; exact rfl) body)
end Htr_con
theorem tr_con (w : World) (news0 news : List (Addr × Obj)) (hnw : NwOk news0 news) (hn0 : ∀ p ∈ news0, p.1 ≠ 126) (pat : Str) (parts : List Str) (t t1 t2 : Tok) (hpat : Small pat) (hrest : RestT w pat 0 parts) :
    ConT 470 w 131 [.str pat t, .str (Str.ofString "many") t1, .str (Str.ofString "any") t2] news (fun t0 => @LE.le Nat _ 1 t1 ∧ @LT.lt Nat _ t1 t0) (fun _ _ v news' => ∃ a vs n news1, v = .ref a ∧ news' = (a, W.listOf (List.toArray vs) n) :: news1 ∧ NwOk news0 news1 ∧ StrsAre vs parts ∧ (∀ p ∈ news1, p.1 ≠ a)) :=
  conT_of fun c => eps_allz (z := Htr_con.z₀) (P := fun z : Htr_con.Dat => Htr_con.Pre z.1 z.2.1 z.2.2.1 z.2.2.2.1 z.2.2.2.2.1 z.2.2.2.2.2.1 z.2.2.2.2.2.2.1 z.2.2.2.2.2.2.2.1 z.2.2.2.2.2.2.2.2) (by delta Htr_con.z₀; exact rfl) (by with_unfolding_all exact Htr_con.main) (w, news0, news, pat, parts, t, t1, t2, c) hnw hn0 hpat hrest
end
section
example : True := by
  k_with_none
  w_top off
  (k_with "k_room" => (first | exact room_of (by assumption) 0 rfl | exact room_of (by assumption) 1 rfl | exact room_of (by assumption) 2 rfl | exact room_of (by assumption) 3 rfl | exact room_of (by assumption) 4 rfl | exact room_of (by assumption) 5 rfl | exact room_of (by assumption) 6 rfl))
  (k_with "my enter" => ((first
    | (refine' code_def ?k1 ?k2 ?k3 ?k4 ?k5 ?kA ?kF ?kK ?k6 ?k7 ?k8 ?k9 ?kB ?_ ?c2 ?c3 ?c4 ?c5; (case kA => exact rfl); (case kF => exact rfl); (case kK => first | exact rfl | assumption); (case k1 => k_asm); (case k2 => k_asm); (case k3 => k_asm); (case k4 => k_asm); (case k5 => k_asm); (case k6 => k_is); (case k7 => k_is); (case k8 => k_room); (case k9 => first | exact BindsTo.of_eq rfl | exact binds_K (by k_in) rfl (by k_is) rfl rfl rfl | fail "k_enter: no rule for these arguments"); (case c5 => decide); (case kB => exact locs rfl); (case c2 => exact rfl); (case c3 => exact rfl); (case c4 => exact rfl); k_whole; intro g' L' h' FG' F' N' B' X' T'; (try dsimp only); (try k_lift B'); (try k_fold))
    | (refine' code_defC ?k1 ?k2 ?k3 ?k4 ?k5 ?kA ?kF ?kK ?k6 ?k7 ?k8 ?k9 ?kB ?kD ?_ ?c2 ?c3 ?c4; (case kA => exact rfl); (case kF => exact rfl); (case kK => first | exact rfl | assumption); (case k1 => k_asm); (case k2 => k_asm); (case k3 => k_asm); (case k4 => k_asm); (case k5 => k_asm); (case k6 => k_is); (case k7 => k_is); (case k8 => k_room); (case k9 => first | exact BindsTo.of_eq rfl | exact binds_K (by k_in) rfl (by k_is) rfl rfl rfl | fail "k_enter: no rule for these arguments"); (case kB => exact rfl); (case kD => decide +kernel); (case c2 => exact rfl); (case c3 => exact rfl); (case c4 => exact rfl); k_whole; intro g' L' h' tk' cells' FG' F' N' Y' B' X' T' l1; (try k_lt l1); k_cells Y'; (try simp only [List.cons_append, List.nil_append] at N'); (try dsimp only); (try k_lift B'); (try k_fold)))))
  (k_with "call builtin:len" => (((with_reducible show wpAny _ _ (call (Value.builtin _) [Value.str _ _]) _ _ _); refine len_str (by omega) ?_)))
  (k_with "SearchPost" => (((with_reducible show SearchPost _ _ _ _ _ _ _ _ _ (Flow.ret _) _); dsimp only [SearchPost])))
  (k_with "execs cons" => ((k_here; (with_reducible show wpAny _ _ _ _ _ (Shared.mk _ _ _ (_ + _) _)); refine gentoks 1 (by first | omega | (dsimp only; omega)) ?_; intro _ _)))
  (k_with "execs nil" => ((k_here; (with_reducible show wpAny _ _ _ _ _ (Shared.mk _ _ _ (_ + _) _)); refine gentoks 1 (by first | omega | (dsimp only; omega)) ?_; intro _ _)))
  (k_with "my sub" => (first | exact fun _ h => h | exact fun _ h => List.mem_cons_of_mem _ h | exact fun _ h => List.mem_cons_of_mem _ (List.mem_cons_of_mem _ h) | exact fun _ h => List.mem_cons_of_mem _ (List.mem_cons_of_mem _ (List.mem_cons_of_mem _ h))))
  (k_with "k_all" => (first | assumption | exact off_of (by assumption) (by omega)))
  (k_with "my le" => (first | exact le_of 0 rfl (by assumption) | exact le_of 1 rfl (by assumption) | exact le_of 2 rfl (by assumption) | exact le_of 3 rfl (by assumption) | exact le_of 6 rfl (by assumption) | exact le_of 4 rfl (by assumption) | exact le_of 5 rfl (by assumption)))
  trivial
theorem isreg_con (w : World) (news : List (Addr × Obj)) (x : Int) (t : Tok) :
    Con 480 w 145 [.int x t] news (fun v news' => news' = news ∧ v = .bool (Builtin.bitAnd x 61440 == 32768)) := by
  intro dp un hdp hun gd cn cs a ccd cl outer A₀ base h₀ L m s Q E mean mg mb B F X N T hk hQ
  refine wpAny_call ?_
  k_dflt (refine' code_frz ?k1 ?k2 ?k3 ?k4 ?k5 ?kA ?kF ?kK ?k6 ?k7 ?k8 ?k9 ?kB ?_ ?c2 ?c3 ?c4 ?c5; (case kA => exact rfl); (case kF => exact rfl); (case kK => first | exact rfl | assumption); (case k1 => k_asm); (case k2 => k_asm); (case k3 => k_asm); (case k4 => k_asm); (case k5 => k_asm); (case k6 => k_is); (case k7 => k_is); (case k8 => k_room); (case k9 => first | exact BindsTo.of_eq rfl | exact binds_K (by k_in) rfl (by k_is) rfl rfl rfl | fail "k_enter: no rule for these arguments"); (case c5 => decide); (case kB => exact locs rfl); (case c2 => exact rfl); (case c3 => exact rfl); (case c4 => exact rfl); k_whole; intro g1 L1 hp1 FG1 F1 N1 B1 X1 T1 hn1; (try dsimp only))
  k_steps
  all_goals (try k_data)
  intro hN
  exact hQ _ _ _ _ ⟨rfl, rfl⟩ (by assumption) hN
end
section
open PySem.W.X
section
section V
variable {prog : Program} {w : World} {A : Around} {E : Value → Shared → Prop} {s : Shared}
theorem next_tup_item {it t : Addr} {i : Nat} {items : Array Value} {x : Value} {Q : Value → Shared → Prop} (hit : s.heap.IsTupleIter it t i) (ht : s.heap.IsTuple t items) (hx : items[i]? = some x)
    (hQ : ∀ h', h'.IsTupleIter it t (i + 1) → Heap.SameBut it s.heap h' → Q x { s with heap := h' }) : wpAny (model prog w) A (Builtin.SmallTypes.nextOf (.ref it)) Q E s := by
  obtain ⟨o, ho, hc, hd⟩ := id hit
  obtain ⟨ol, hol, _, nl, hdl⟩ := ht
  unfold Builtin.SmallTypes.nextOf
  refine wpAny_bind (wpAny_callSpecial?_slot (name := Str.ofString "__next__") hit.typeIs F.slot_tuple_iterator_next
    (wpAny_call_entry F.slot_tuple_iterator_next hit.typeIs F.entry_tuple_iterator_next ?_ (F.args_tuple_iterator_next_1 _)))
  show wpAny _ _ (field (.ref it) 0 >>= _) _ _ s
  refine wpAny_bind (wpAny_field ho hd (x := .ref t) rfl ?_)
  show wpAny _ _ (if (Value.ref t == Value.none) = true then _ else _) _ _ s
  refine KFB.if_not (by rfl) ?_
  show wpAny _ _ (field (.ref it) 1 >>= _) _ _ s
  refine wpAny_bind (wpAny_field ho hd (x := .int i 0) rfl ?_)
  show wpAny _ _ (seqItems? (.ref t) >>= _) _ _ s
  refine wpAny_bind (wpAny_seqItems hol hdl ?_)
  simp only [Int.toNat_natCast, hx]
  refine wpAny_bind (wpAny_setField ho hd (by simp) (wpAny_pure ⟨x, rfl, wpAny_pure (hQ _ ?_ (Heap.SameBut.update ..))⟩))
  refine ⟨_, Heap.get?_update_self _ ho (Obj.isFreed_of_fields (Obj.data_mapFields hd _)), (Obj.cls_mapFields ..).trans hc, ?_⟩
  rw [Obj.data_mapFields hd]; simp [rawInt]
theorem next_tup_end {it t : Addr} {i : Nat} {items : Array Value} {Q : Value → Shared → Prop} (hh : A.handled = none) (hit : s.heap.IsTupleIter it t i) (ht : s.heap.IsTuple t items) (hx : items[i]? = none)
    (hE : ∀ h' e, Heap.ExtBut it s.heap h' → (∃ o, h'.get? e = some o ∧ o.cls = .type "StopIteration") → E (.ref e) { s with heap := h' }) : wpAny (model prog w) A (Builtin.SmallTypes.nextOf (.ref it)) Q E s := by
  obtain ⟨o, ho, hc, hd⟩ := id hit
  obtain ⟨ol, hol, _, nl, hdl⟩ := ht
  unfold Builtin.SmallTypes.nextOf
  refine wpAny_bind (wpAny_callSpecial?_slot (name := Str.ofString "__next__") hit.typeIs F.slot_tuple_iterator_next
    (wpAny_call_entry F.slot_tuple_iterator_next hit.typeIs F.entry_tuple_iterator_next ?_ (F.args_tuple_iterator_next_1 _)))
  show wpAny _ _ (field (.ref it) 0 >>= _) _ _ s
  refine wpAny_bind (wpAny_field ho hd (x := .ref t) rfl ?_)
  show wpAny _ _ (if (Value.ref t == Value.none) = true then _ else _) _ _ s
  refine KFB.if_not (by rfl) ?_
  show wpAny _ _ (field (.ref it) 1 >>= _) _ _ s
  refine wpAny_bind (wpAny_field ho hd (x := .int i 0) rfl ?_)
  show wpAny _ _ (seqItems? (.ref t) >>= _) _ _ s
  refine wpAny_bind (wpAny_seqItems hol hdl ?_)
  simp only [Int.toNat_natCast, hx]
  refine wpAny_bind (wpAny_rule (wpAny_bind (wpAny_setField ho hd (by simp) ?_)))
  show wpAny _ _ (newExc (.type "StopIteration") [] >>= _) _ _ _
  refine wpAny_bind ?_
  simp only [newExc, newTuple]
  refine wpAny_bind (wpAny_newObj_type ?_ (by size_fits))
  refine wpAny_bind (m := firstArgMember _ _) (wpAny_of_eq (a := Value.none) (by first | rfl | (simp only [firstArgMember]; rfl)) ?_)
  refine wpAny_newObj_type ?_ (by size_fits)
  simp only [raiseNew]
  refine wpAny_bind (wpAny_handled ?_)
  first | rw [show A.in1.handled = none from hh] | rw [hh]
  refine wpAny_bind (wpAny_pure (wpAny_throw ?_))
  exact hE _ _ (((Heap.SameBut.update ..).extBut.push _).push _) ⟨_, Heap.get?_push_size _ rfl, rfl⟩
theorem draws_tup (hh : A.handled = none) (it t : Addr) (hne : t ≠ it) (items : Array Value) :
    Draws prog w A it [it, t] items.size (fun i v => items[i]? = some v) (fun i h => h.IsTupleIter it t i ∧ h.IsTuple t items) where
  live := fun _ _ st => let ⟨o, ho, _⟩ := st.1; ⟨o, ho⟩
  frame := fun _ _ _ st hk => ⟨st.1.at fun o e => hk it (by simp) o e, st.2.at fun o e => hk t (by simp) o e⟩
  item := fun i s Q E hi st hQ => by
    refine next_tup_item st.1 st.2 (x := items[i]) (by simp [hi]) fun h' hit' hs' => ?_
    exact hQ _ h' s.toks (by simp [hi]) ⟨hit', st.2.extBut hs'.extBut hne⟩ hs'
  done := fun s Q E st hE => next_tup_end hh st.1 st.2 (by simp) hE
/-- the end of a turn along enumerate -/
noncomputable def TurnE (h₀ : Heap) (L : Addr) (J : (Str → Option Value) → List (Addr × Obj) → Prop) (e : Addr) (oe : Obj) (it : Addr) (oi : Obj) (s₁ : Shared) (Q : Flow → Shared → Prop) (f : Flow) (s₂ : Shared) : Prop :=
  match f with
  | .ret v => Q (.ret v) s₂
  | .brk => Q .next s₂
  | _ => ∃ h' tk m' nw, s₂ = { s₁ with heap := h', toks := tk } ∧ Fr h₀ L h' m' ∧ News h₀ L h' ((e, oe) :: (it, oi) :: nw) ∧ (∀ p ∈ nw, p.1 ≠ e ∧ p.1 ≠ it) ∧ J m' nw
variable {env : Env} {h₀ : Heap} {body : List Stmt} {Q : Flow → Shared → Prop}
end V
namespace HforAt_enum
noncomputable def Pre (prog : Program) (w : World) (A : Around) (E : Value → Shared → Prop) (s : Shared) (env : Env) (h₀ : Heap) (body : List Stmt) (Q : Flow → Shared → Prop) (xi : Str) (xc : Str) (pk : Pos) (pv : Pos) (tp : Pos) (x1 : Nat) (e : Addr) (it : Addr) (ax : Addr) (lo : Obj) (items : Array Value) (m₀ : Str → Option Value) (news : List (Addr × Obj)) (St : Nat → Heap → Prop) (J : Nat → (Str → Option Value) → List (Addr × Obj) → Prop) : Prop :=
  (Draws prog w A.in1 it [it, ax] items.size (fun i v => items[i]? = some v) St) → (A.handled = none) → (PassesOwn (model prog w) A env E) → (env.kindOf xi = some .local) → (env.kindOf xc = some .local) → ((env.scope.kind == .class || (env.scope.kind == .module && env.locals != env.globals)) = false) → (Fr h₀ env.locals s.heap m₀) → (News h₀ env.locals s.heap news) → (h₀.get? ax = some lo) → (IsEnum s.heap e it 0 .none) → (St 0 s.heap) → (e ≠ it) → (∀ p ∈ news, p.1 ≠ e ∧ p.1 ≠ it) → (env.locals ≠ e) → (env.locals ≠ it) → (h₀.get? e = none) → (h₀.get? it = none) → (J 0 m₀ news) → (∀ i v t m nw oe oi h tk, items[i]? = some v → J i m nw → (∀ p ∈ nw, p.1 ≠ e ∧ p.1 ≠ it) → Fr h₀ env.locals h (fun y => if y = xc then some v else if y = xi then some (.int (i : Int) t) else m y) → News h₀ env.locals h ((e, oe) :: (it, oi) :: nw) →
      wpAny (model prog w) A (execs body env) (TurnE h₀ env.locals (J (i + 1)) e oe it oi { s with heap := h, toks := tk } Q) E { s with heap := h, toks := tk }) → (∀ m nw h tk, J items.size m nw → Fr h₀ env.locals h m → News h₀ env.locals h nw → Q .next { s with heap := h, toks := tk }) → ForAt prog w A env (.Tuple [.Name xi pk, .Name xc pv] x1 tp) body [] Q E (.ref e) s
noncomputable abbrev Dat : Type := Program × World × Around × (Value → Shared → Prop) × Shared × Env × Heap × (List Stmt) × (Flow → Shared → Prop) × Str × Str × Pos × Pos × Pos × Nat × Addr × Addr × Addr × Obj × (Array Value) × (Str → Option Value) × (List (Addr × Obj)) × (Nat → Heap → Prop) × (Nat → (Str → Option Value) → List (Addr × Obj) → Prop)
noncomputable def d₀ : Dat := (default, wd, ⟨none, 0, none, none, 1⟩, (fun _ _ => True), ⟨{}, #[], {}, 1, {}⟩, default, {}, [], (fun _ _ => True), (Str.ofString ""), (Str.ofString ""), default, default, default, 0, (0 : Nat), (0 : Nat), (0 : Nat), default, default, (fun _ => none), [], (fun _ _ => True), (fun _ _ _ => True))
@[irreducible] noncomputable def z₀ : Dat := eps d₀ fun z => ¬ Pre z.1 z.2.1 z.2.2.1 z.2.2.2.1 z.2.2.2.2.1 z.2.2.2.2.2.1 z.2.2.2.2.2.2.1 z.2.2.2.2.2.2.2.1 z.2.2.2.2.2.2.2.2.1 z.2.2.2.2.2.2.2.2.2.1 z.2.2.2.2.2.2.2.2.2.2.1 z.2.2.2.2.2.2.2.2.2.2.2.1 z.2.2.2.2.2.2.2.2.2.2.2.2.1 z.2.2.2.2.2.2.2.2.2.2.2.2.2.1 z.2.2.2.2.2.2.2.2.2.2.2.2.2.2.1 z.2.2.2.2.2.2.2.2.2.2.2.2.2.2.2.1 z.2.2.2.2.2.2.2.2.2.2.2.2.2.2.2.2.1 z.2.2.2.2.2.2.2.2.2.2.2.2.2.2.2.2.2.1 z.2.2.2.2.2.2.2.2.2.2.2.2.2.2.2.2.2.2.1 z.2.2.2.2.2.2.2.2.2.2.2.2.2.2.2.2.2.2.2.1 z.2.2.2.2.2.2.2.2.2.2.2.2.2.2.2.2.2.2.2.2.1 z.2.2.2.2.2.2.2.2.2.2.2.2.2.2.2.2.2.2.2.2.2.1 z.2.2.2.2.2.2.2.2.2.2.2.2.2.2.2.2.2.2.2.2.2.2.1 z.2.2.2.2.2.2.2.2.2.2.2.2.2.2.2.2.2.2.2.2.2.2.2
@[irreducible] noncomputable def prog : Program := z₀.1
@[irreducible] noncomputable def w : World := z₀.2.1
@[irreducible] noncomputable def A : Around := z₀.2.2.1
@[irreducible] noncomputable def E : Value → Shared → Prop := z₀.2.2.2.1
@[irreducible] noncomputable def s : Shared := z₀.2.2.2.2.1
@[irreducible] noncomputable def env : Env := z₀.2.2.2.2.2.1
@[irreducible] noncomputable def h₀ : Heap := z₀.2.2.2.2.2.2.1
@[irreducible] noncomputable def body : List Stmt := z₀.2.2.2.2.2.2.2.1
@[irreducible] noncomputable def Q : Flow → Shared → Prop := z₀.2.2.2.2.2.2.2.2.1
@[irreducible] noncomputable def xi : Str := z₀.2.2.2.2.2.2.2.2.2.1
@[irreducible] noncomputable def xc : Str := z₀.2.2.2.2.2.2.2.2.2.2.1
@[irreducible] noncomputable def pk : Pos := z₀.2.2.2.2.2.2.2.2.2.2.2.1
@[irreducible] noncomputable def pv : Pos := z₀.2.2.2.2.2.2.2.2.2.2.2.2.1
@[irreducible] noncomputable def tp : Pos := z₀.2.2.2.2.2.2.2.2.2.2.2.2.2.1
@[irreducible] noncomputable def x1 : Nat := z₀.2.2.2.2.2.2.2.2.2.2.2.2.2.2.1
@[irreducible] noncomputable def e : Addr := z₀.2.2.2.2.2.2.2.2.2.2.2.2.2.2.2.1
@[irreducible] noncomputable def it : Addr := z₀.2.2.2.2.2.2.2.2.2.2.2.2.2.2.2.2.1
@[irreducible] noncomputable def ax : Addr := z₀.2.2.2.2.2.2.2.2.2.2.2.2.2.2.2.2.2.1
@[irreducible] noncomputable def lo : Obj := z₀.2.2.2.2.2.2.2.2.2.2.2.2.2.2.2.2.2.2.1
@[irreducible] noncomputable def items : Array Value := z₀.2.2.2.2.2.2.2.2.2.2.2.2.2.2.2.2.2.2.2.1
@[irreducible] noncomputable def m₀ : Str → Option Value := z₀.2.2.2.2.2.2.2.2.2.2.2.2.2.2.2.2.2.2.2.2.1
@[irreducible] noncomputable def news : List (Addr × Obj) := z₀.2.2.2.2.2.2.2.2.2.2.2.2.2.2.2.2.2.2.2.2.2.1
@[irreducible] noncomputable def St : Nat → Heap → Prop := z₀.2.2.2.2.2.2.2.2.2.2.2.2.2.2.2.2.2.2.2.2.2.2.1
@[irreducible] noncomputable def J : Nat → (Str → Option Value) → List (Addr × Obj) → Prop := z₀.2.2.2.2.2.2.2.2.2.2.2.2.2.2.2.2.2.2.2.2.2.2.2
theorem main : Pre prog w A E s env h₀ body Q xi xc pk pv tp x1 e it ax lo items m₀ news St J := by
  intro D hh hE hxi hxc hp F N hax he hst hei hn hLe hLi he₀ hi₀ h0 turn done
  refine wpAny_pyIter_enum he ?_
  have hea : e ≠ ax := fun q => by rw [q, hax] at he₀; cases he₀
  have W := WalksT.enumerateD D e hei (by simp [hei, hea]) (by simp)
  refine codeAny_forLoop_any (R := fun r s' => match r with | .ok f => Q f s' | .error e => cameBackBy (model prog w) A env E e s')
    (fun k s' => ∃ h' tk m' nw, ∃ i : Nat, s' = { s with heap := h', toks := tk } ∧ ((∃ old, IsEnum h' e it i old) ∧ St i h') ∧ Fr h₀ env.locals h' m' ∧ News h₀ env.locals h' nw ∧ (∀ p ∈ nw, p.1 ≠ e ∧ p.1 ≠ it) ∧ J i m' nw ∧ i ≤ items.size ∧ k = items.size + 1 - i)
    ?_ (items.size + 1) ⟨_, s.toks, m₀, news, 0, rfl, ⟨⟨_, by simpa using he⟩, hst⟩, F, N, hn, h0, Nat.zero_le _, rfl⟩
  rintro k s' ⟨h', tk, m', nw, i, rfl, hst', F', N', hoff, hj, hi, rfl⟩
  have upF : ∀ h₁ : Heap, (∀ b o, b ∉ [e, it] → h'.get? b = some o → h₁.get? b = some o) → Fr h₀ env.locals h₁ m' ∧ News h₀ env.locals h₁ nw := fun h₁ hk =>
    ⟨⟨F'.ns.at' fun o q => hk _ o (by simp [hLe, hLi]) q, fun b o q => hk b o (fun hm => by
      rcases List.mem_cons.mp hm with r | hm
      · rw [r, he₀] at q; cases q
      · rw [List.mem_singleton.mp hm, hi₀] at q; cases q) (F'.keep b o q), F'.above⟩, fun p hp => ⟨hk _ _ (by simp [(hoff p hp).1, (hoff p hp).2]) (N' p hp).1, (N' p hp).2⟩⟩
  by_cases hlt : i < items.size
  · refine W.item i _ _ _ hlt hst' fun T vals h₁ tk₁ hPt hT hTup hMid hk₁ => ?_
    obtain ⟨t, x, hx, rfl⟩ := hPt
    refine W.go _ _ _ i T _ _ _ hMid fun h₂ hst₂ hk₂ => ?_
    have hT₂ : h₂.IsTuple T #[.int i t, x] := hTup.at fun o q => hk₂ T o (W.apart _ _ _ hMid) q
    obtain ⟨F₂, N₂⟩ := upF h₂ fun b o hb q => hk₂ b o hb (hk₁ b o hb q)
    refine kcp_assign hh hT₂ hxi hxc hp F₂.ns fun h₄ tk₄ hn₄ hk₄ => ?_
    have hL₀ : h₀.get? env.locals = none := Heap.get?_none_of_le F'.above
    have F₄ : Fr h₀ env.locals h₄ (fun y => if y = xc then some x else if y = xi then some (.int (i : Int) t) else m' y) :=
      ⟨hn₄, fun b o q => hk₄ b o (fun r => by rw [r, hL₀] at q; cases q) (F₂.keep b o q), F'.above⟩
    obtain ⟨⟨old₂, he₂⟩, hst₂'⟩ := hst₂
    obtain ⟨oi, hoi⟩ := D.live _ _ hst₂'
    obtain ⟨oe, hoe⟩ : ∃ oe : Obj, oe = { cls := .type "enumerate", dict := none, data := .fields #[.none, .bool false, .ref it, rawInt ((i : Int) + 1), .none, old₂], slots := #[] } := ⟨_, rfl⟩
    have he₂' : h₂.get? e = some oe := by rw [hoe]; simpa using he₂
    have he₄ : h₄.get? e = some oe := hk₄ e _ (Ne.symm hLe) he₂'
    have hi₄ : h₄.get? it = some oi := hk₄ it _ (Ne.symm hLi) hoi
    have hax₂ : h₂.get? ax = some lo := F₂.keep _ _ hax
    have N₄ : News h₀ env.locals h₄ ((e, oe) :: (it, oi) :: nw) := fun p hp => by
      rcases List.mem_cons.mp hp with rfl | hp
      · exact ⟨he₄, Ne.symm hLe, he₀⟩
      rcases List.mem_cons.mp hp with rfl | hp
      · exact ⟨hi₄, Ne.symm hLi, hi₀⟩
      · exact ⟨hk₄ _ _ (N₂ p hp).2.1 (N₂ p hp).1, (N₂ p hp).2⟩
    refine wpAny_passesOwn hE (wpAny_mono (turn i x t m' nw oe oi h₄ tk₄ hx hj hoff F₄ N₄) (fun f s₃ q => ?_) fun _ _ e => e)
    have fin : (∃ h' tk' m' nw', s₃ = { ({ s with heap := h₄, toks := tk₄ } : Shared) with heap := h', toks := tk' } ∧ Fr h₀ env.locals h' m' ∧ News h₀ env.locals h' ((e, oe) :: (it, oi) :: nw') ∧ (∀ p ∈ nw', p.1 ≠ e ∧ p.1 ≠ it) ∧ J (i + 1) m' nw') →
        ∃ mm, mm < items.size + 1 - i ∧ ∃ h' tk m' nw, ∃ i' : Nat, s₃ = { s with heap := h', toks := tk } ∧ ((∃ old, IsEnum h' e it i' old) ∧ St i' h') ∧ Fr h₀ env.locals h' m' ∧ News h₀ env.locals h' nw ∧ (∀ p ∈ nw, p.1 ≠ e ∧ p.1 ≠ it) ∧ J i' m' nw ∧ i' ≤ items.size ∧ mm = items.size + 1 - i' := by
      rintro ⟨h₅, tk₅, m₅, nw₅, rfl, F₅, N₅, o₅, j₅⟩
      refine ⟨items.size + 1 - (i + 1), by omega, h₅, tk₅, m₅, nw₅, i + 1, rfl, ⟨⟨old₂, by have z := (N₅ _ (.head _)).1; rw [hoe] at z; simpa using z⟩, D.frame _ _ _ hst₂' fun b hb o q9 => ?_⟩, F₅, fun p hp => N₅ p (.tail _ (.tail _ hp)), o₅, j₅, hlt, rfl⟩
      rcases List.mem_cons.mp hb with rfl | hb
      · rw [hoi] at q9; cases q9
        exact (N₅ _ (.tail _ (.head _))).1
      · rw [List.mem_singleton.mp hb] at q9 ⊢
        rw [hax₂] at q9; cases q9
        exact F₅.keep _ _ hax
    cases f with
    | ret v => exact q
    | brk => exact q
    | next => exact fin q
    | cont => exact fin q
  · obtain rfl : i = items.size := Nat.le_antisymm hi (Nat.not_lt.mp hlt)
    refine W.done _ _ _ hst' fun h₂ tk₂ hk₂ => wpAny_execs_nil ?_
    obtain ⟨F₂, N₂⟩ := upF h₂ hk₂
    exact done m' nw h₂ tk₂ hj F₂ N₂
end HforAt_enum
section V
variable {prog : Program} {w : World} {A : Around} {E : Value → Shared → Prop} {s : Shared} {env : Env} {h₀ : Heap} {body : List Stmt} {Q : Flow → Shared → Prop}
theorem forAt_enum {xi xc : Str} {pk pv tp : Pos} {x1 : Nat} {e it ax : Addr} {lo : Obj} {items : Array Value} {m₀ : Str → Option Value} {news : List (Addr × Obj)} {St : Nat → Heap → Prop} (D : Draws prog w A.in1 it [it, ax] items.size (fun i v => items[i]? = some v) St)
    (J : Nat → (Str → Option Value) → List (Addr × Obj) → Prop) (hh : A.handled = none) (hE : PassesOwn (model prog w) A env E) (hxi : env.kindOf xi = some .local) (hxc : env.kindOf xc = some .local)
    (hp : (env.scope.kind == .class || (env.scope.kind == .module && env.locals != env.globals)) = false) (F : Fr h₀ env.locals s.heap m₀) (N : News h₀ env.locals s.heap news) (hax : h₀.get? ax = some lo)
    (he : IsEnum s.heap e it 0 .none) (hst : St 0 s.heap) (hei : e ≠ it) (hn : ∀ p ∈ news, p.1 ≠ e ∧ p.1 ≠ it) (hLe : env.locals ≠ e) (hLi : env.locals ≠ it) (he₀ : h₀.get? e = none) (hi₀ : h₀.get? it = none) (h0 : J 0 m₀ news)
    (turn : ∀ i v t m nw oe oi h tk, items[i]? = some v → J i m nw → (∀ p ∈ nw, p.1 ≠ e ∧ p.1 ≠ it) → Fr h₀ env.locals h (fun y => if y = xc then some v else if y = xi then some (.int (i : Int) t) else m y) → News h₀ env.locals h ((e, oe) :: (it, oi) :: nw) →
      wpAny (model prog w) A (execs body env) (TurnE h₀ env.locals (J (i + 1)) e oe it oi { s with heap := h, toks := tk } Q) E { s with heap := h, toks := tk })
    (done : ∀ m nw h tk, J items.size m nw → Fr h₀ env.locals h m → News h₀ env.locals h nw → Q .next { s with heap := h, toks := tk }) :
    ForAt prog w A env (.Tuple [.Name xi pk, .Name xc pv] x1 tp) body [] Q E (.ref e) s :=
  eps_allz (z := HforAt_enum.z₀) (P := fun z : HforAt_enum.Dat => HforAt_enum.Pre z.1 z.2.1 z.2.2.1 z.2.2.2.1 z.2.2.2.2.1 z.2.2.2.2.2.1 z.2.2.2.2.2.2.1 z.2.2.2.2.2.2.2.1 z.2.2.2.2.2.2.2.2.1 z.2.2.2.2.2.2.2.2.2.1 z.2.2.2.2.2.2.2.2.2.2.1 z.2.2.2.2.2.2.2.2.2.2.2.1 z.2.2.2.2.2.2.2.2.2.2.2.2.1 z.2.2.2.2.2.2.2.2.2.2.2.2.2.1 z.2.2.2.2.2.2.2.2.2.2.2.2.2.2.1 z.2.2.2.2.2.2.2.2.2.2.2.2.2.2.2.1 z.2.2.2.2.2.2.2.2.2.2.2.2.2.2.2.2.1 z.2.2.2.2.2.2.2.2.2.2.2.2.2.2.2.2.2.1 z.2.2.2.2.2.2.2.2.2.2.2.2.2.2.2.2.2.2.1 z.2.2.2.2.2.2.2.2.2.2.2.2.2.2.2.2.2.2.2.1 z.2.2.2.2.2.2.2.2.2.2.2.2.2.2.2.2.2.2.2.2.1 z.2.2.2.2.2.2.2.2.2.2.2.2.2.2.2.2.2.2.2.2.2.1 z.2.2.2.2.2.2.2.2.2.2.2.2.2.2.2.2.2.2.2.2.2.2.1 z.2.2.2.2.2.2.2.2.2.2.2.2.2.2.2.2.2.2.2.2.2.2.2) (by delta HforAt_enum.z₀; exact rfl) (by with_unfolding_all exact HforAt_enum.main) (prog, w, A, E, s, env, h₀, body, Q, xi, xc, pk, pv, tp, x1, e, it, ax, lo, items, m₀, news, St, J) D hh hE hxi hxc hp F N hax he hst hei hn hLe hLi he₀ hi₀ h0 turn done
end V
end
end
section
open PySem.W.X
section
example : True := by
  k_with_none
  w_top off
  (k_with "x_close" => ((refine' hQ9 _ _ _ _ ?m; (case m => assumption))))
  trivial
theorem en178 (w : World) (A : Around) (s : Shared) (X : (hd.heap_1 w.params).In s.heap) (Q E : Value → Shared → Prop)
   (hQ9 : ∀ e it h tk, Mem s.heap h [] [(e, { cls := .type "enumerate", data := .fields #[.none, .bool false, .ref it, .int 0 0, .none, .none] }), (it, { cls := .type "tuple_iterator", data := .fields #[.ref 178, .int 0 0] })] → Q (.ref e) { s with heap := h, toks := tk }) :
   wpAny (model P w) A (call (.type "enumerate") [.ref 178]) Q E s := by
  x_run
end
end
section
open PySem.W.X
section
section V
variable {prog : Program} {w : World} {A : Around} {E : Value → Shared → Prop} {s : Shared} {env : Env} {h₀ : Heap} {body orelse : List Stmt} {Q : Flow → Shared → Prop}
/-- the end of a turn along a tuple -/
noncomputable def TurnT (h₀ : Heap) (L : Addr) (J : (Str → Option Value) → List (Addr × Obj) → Prop) (it : Addr) (oi : Obj) (s₁ : Shared) (Q : Flow → Shared → Prop) (f : Flow) (s₂ : Shared) : Prop :=
  match f with
  | .ret v => Q (.ret v) s₂
  | .brk => Q .next s₂
  | _ => ∃ h' tk m' nw, s₂ = { s₁ with heap := h', toks := tk } ∧ Fr h₀ L h' m' ∧ News h₀ L h' ((it, oi) :: nw) ∧ (∀ p ∈ nw, p.1 ≠ it) ∧ J m' nw
theorem go_tup {elts : List Expr} {x1 : Nat} {pos : Pos} {I l T : Addr} {i : Nat} {Q : Unit → Shared → Prop} (hit : s.heap.IsTupleIter I l i) (hQ : Q () s) : wpAny (model prog w) A (letOwnedTupleGo (.Tuple elts x1 pos) (.ref I) (.ref T)) Q E s := by
  obtain ⟨o, ho, hc, hd⟩ := hit
  show wpAny _ _ (load I >>= _) _ _ _
  refine wpAny_bind (wpAny_load ho ?_)
  simp only [hc, hd]
  refine KFB.if_not (Bool.and_eq_false_imp.mpr fun h => absurd h (by decide)) ?_
  exact wpAny_pure hQ
end V
namespace HforAt_pairs
noncomputable def Pre (prog : Program) (w : World) (A : Around) (E : Value → Shared → Prop) (s : Shared) (env : Env) (h₀ : Heap) (body : List Stmt) (orelse : List Stmt) (Q : Flow → Shared → Prop) (xb : Str) (xc : Str) (pk : Pos) (pv : Pos) (tp : Pos) (x1 : Nat) (ax : Addr) (es : List (Int × Str)) (items : Array Value) (m₀ : Str → Option Value) (news : List (Addr × Obj)) (J : Nat → (Str → Option Value) → List (Addr × Obj) → Prop) : Prop :=
  (h₀.IsTuple ax items) → (items.size = es.length) → (∀ (k : Nat) (b : Int) (c : Str), es[k]? = some (b, c) → ∃ (p : Addr) (tb tc : Tok), items[k]? = some (Value.ref p) ∧ h₀.IsTuple p #[.int b tb, .str c tc]) → (A.handled = none) → (PassesOwn (model prog w) A env E) → (env.kindOf xb = some .local) → (env.kindOf xc = some .local) → ((env.scope.kind == .class || (env.scope.kind == .module && env.locals != env.globals)) = false) → (Fr h₀ env.locals s.heap m₀) → (News h₀ env.locals s.heap news) → (J 0 m₀ news) → (∀ (k : Nat) (b : Int) (c : Str) (tb tc : Tok) m nw it oi h tk, es[k]? = some (b, c) → J k m nw → (∀ p ∈ nw, p.1 ≠ it) → Fr h₀ env.locals h (fun y => if y = xc then some (.str c tc) else if y = xb then some (.int b tb) else m y) → News h₀ env.locals h ((it, oi) :: nw) →
      wpAny (model prog w) A (execs body env) (TurnT h₀ env.locals (J (k + 1)) it oi { s with heap := h, toks := tk } Q) E { s with heap := h, toks := tk }) → (∀ m nw h tk, J es.length m nw → Fr h₀ env.locals h m → News h₀ env.locals h nw → wpAny (model prog w) A (execs orelse env) Q E { s with heap := h, toks := tk }) → ForAt prog w A env (.Tuple [.Name xb pk, .Name xc pv] x1 tp) body orelse Q E (.ref ax) s
noncomputable abbrev Dat : Type := Program × World × Around × (Value → Shared → Prop) × Shared × Env × Heap × (List Stmt) × (List Stmt) × (Flow → Shared → Prop) × Str × Str × Pos × Pos × Pos × Nat × Addr × (List (Int × Str)) × (Array Value) × (Str → Option Value) × (List (Addr × Obj)) × (Nat → (Str → Option Value) → List (Addr × Obj) → Prop)
noncomputable def d₀ : Dat := (default, wd, ⟨none, 0, none, none, 1⟩, (fun _ _ => True), ⟨{}, #[], {}, 1, {}⟩, default, {}, [], [], (fun _ _ => True), (Str.ofString ""), (Str.ofString ""), default, default, default, 0, (0 : Nat), [], default, (fun _ => none), [], (fun _ _ _ => True))
@[irreducible] noncomputable def z₀ : Dat := eps d₀ fun z => ¬ Pre z.1 z.2.1 z.2.2.1 z.2.2.2.1 z.2.2.2.2.1 z.2.2.2.2.2.1 z.2.2.2.2.2.2.1 z.2.2.2.2.2.2.2.1 z.2.2.2.2.2.2.2.2.1 z.2.2.2.2.2.2.2.2.2.1 z.2.2.2.2.2.2.2.2.2.2.1 z.2.2.2.2.2.2.2.2.2.2.2.1 z.2.2.2.2.2.2.2.2.2.2.2.2.1 z.2.2.2.2.2.2.2.2.2.2.2.2.2.1 z.2.2.2.2.2.2.2.2.2.2.2.2.2.2.1 z.2.2.2.2.2.2.2.2.2.2.2.2.2.2.2.1 z.2.2.2.2.2.2.2.2.2.2.2.2.2.2.2.2.1 z.2.2.2.2.2.2.2.2.2.2.2.2.2.2.2.2.2.1 z.2.2.2.2.2.2.2.2.2.2.2.2.2.2.2.2.2.2.1 z.2.2.2.2.2.2.2.2.2.2.2.2.2.2.2.2.2.2.2.1 z.2.2.2.2.2.2.2.2.2.2.2.2.2.2.2.2.2.2.2.2.1 z.2.2.2.2.2.2.2.2.2.2.2.2.2.2.2.2.2.2.2.2.2
@[irreducible] noncomputable def prog : Program := z₀.1
@[irreducible] noncomputable def w : World := z₀.2.1
@[irreducible] noncomputable def A : Around := z₀.2.2.1
@[irreducible] noncomputable def E : Value → Shared → Prop := z₀.2.2.2.1
@[irreducible] noncomputable def s : Shared := z₀.2.2.2.2.1
@[irreducible] noncomputable def env : Env := z₀.2.2.2.2.2.1
@[irreducible] noncomputable def h₀ : Heap := z₀.2.2.2.2.2.2.1
@[irreducible] noncomputable def body : List Stmt := z₀.2.2.2.2.2.2.2.1
@[irreducible] noncomputable def orelse : List Stmt := z₀.2.2.2.2.2.2.2.2.1
@[irreducible] noncomputable def Q : Flow → Shared → Prop := z₀.2.2.2.2.2.2.2.2.2.1
@[irreducible] noncomputable def xb : Str := z₀.2.2.2.2.2.2.2.2.2.2.1
@[irreducible] noncomputable def xc : Str := z₀.2.2.2.2.2.2.2.2.2.2.2.1
@[irreducible] noncomputable def pk : Pos := z₀.2.2.2.2.2.2.2.2.2.2.2.2.1
@[irreducible] noncomputable def pv : Pos := z₀.2.2.2.2.2.2.2.2.2.2.2.2.2.1
@[irreducible] noncomputable def tp : Pos := z₀.2.2.2.2.2.2.2.2.2.2.2.2.2.2.1
@[irreducible] noncomputable def x1 : Nat := z₀.2.2.2.2.2.2.2.2.2.2.2.2.2.2.2.1
@[irreducible] noncomputable def ax : Addr := z₀.2.2.2.2.2.2.2.2.2.2.2.2.2.2.2.2.1
@[irreducible] noncomputable def es : List (Int × Str) := z₀.2.2.2.2.2.2.2.2.2.2.2.2.2.2.2.2.2.1
@[irreducible] noncomputable def items : Array Value := z₀.2.2.2.2.2.2.2.2.2.2.2.2.2.2.2.2.2.2.1
@[irreducible] noncomputable def m₀ : Str → Option Value := z₀.2.2.2.2.2.2.2.2.2.2.2.2.2.2.2.2.2.2.2.1
@[irreducible] noncomputable def news : List (Addr × Obj) := z₀.2.2.2.2.2.2.2.2.2.2.2.2.2.2.2.2.2.2.2.2.1
@[irreducible] noncomputable def J : Nat → (Str → Option Value) → List (Addr × Obj) → Prop := z₀.2.2.2.2.2.2.2.2.2.2.2.2.2.2.2.2.2.2.2.2.2
theorem main : Pre prog w A E s env h₀ body orelse Q xb xc pk pv tp x1 ax es items m₀ news J := by
  intro hax hsz hes hh hE hxb hxc hp F N h0 turn done
  have hax' : s.heap.IsTuple ax items := hax.at fun o q => F.keep _ _ q
  refine wpAny_pyIter_tuple hax' ?_
  obtain ⟨oa, ha, _⟩ := id hax'
  have hne : ax ≠ s.heap.objs.size := Nat.ne_of_lt (Heap.lt_size ha)
  have hLI : env.locals ≠ s.heap.objs.size := Nat.ne_of_lt F.ns.lt
  have hI₀ := next_is_new F
  generalize hI : s.heap.objs.size = I at hne hLI hI₀ ⊢
  have W := Walks.tuple (prog := prog) (w := w) hh I ax hne items
  refine codeAny_forLoop_any (R := fun r s' => match r with | .ok f => Q f s' | .error e => cameBackBy (model prog w) A env E e s')
    (fun k s' => ∃ h' tk m' nw, ∃ i : Nat, s' = { s with heap := h', toks := tk } ∧ (h'.IsTupleIter I ax i ∧ h'.IsTuple ax items) ∧ Fr h₀ env.locals h' m' ∧ News h₀ env.locals h' nw ∧ (∀ p ∈ nw, p.1 ≠ I) ∧ J i m' nw ∧ i ≤ items.size ∧ k = items.size + 1 - i)
    ?_ (items.size + 1) ⟨_, s.toks, m₀, news, 0, rfl, ⟨⟨_, by rw [← hI]; exact Heap.get?_push_size _ rfl, rfl, rfl⟩, hax'.at fun o q => Heap.get?_push_of_some _ q⟩, F.push _, (fun p hp => ⟨Heap.get?_push_of_some _ (N p hp).1, (N p hp).2⟩), (fun p hp => by rw [← hI]; exact Nat.ne_of_lt (Heap.lt_size (N p hp).1)), h0, Nat.zero_le _, rfl⟩
  rintro k s' ⟨h', tk, m', nw, i, rfl, hst', F', N', hoff, hj, hi, rfl⟩
  have upF : ∀ h₁ : Heap, (∀ b o, b ∉ [I] → h'.get? b = some o → h₁.get? b = some o) → Fr h₀ env.locals h₁ m' ∧ News h₀ env.locals h₁ nw := fun h₁ hk =>
    ⟨⟨F'.ns.at' fun o q => hk _ o (by simp [hLI]) q, fun b o q => hk b o (fun hm => by rw [List.mem_singleton.mp hm, hI₀] at q; cases q) (F'.keep b o q), F'.above⟩, fun p hp => ⟨hk _ _ (by simp [hoff p hp]) (N' p hp).1, (N' p hp).2⟩⟩
  by_cases hlt : i < items.size
  · refine W.item i _ _ _ hlt hst' fun v h₂ tk₂ hv hst₂ hk₂ => ?_
    show wpAny _ _ _ _ _ _
    obtain ⟨⟨b, c⟩, hbc⟩ : ∃ e, es[i]? = some e := ⟨es[i]'(by rw [← hsz]; exact hlt), List.getElem?_eq_getElem _⟩
    obtain ⟨p, tb, tc, hp1, hp2⟩ := hes i b c hbc
    rw [hp1] at hv; cases hv
    refine go_tup hst₂.1 ?_
    obtain ⟨F₂, N₂⟩ := upF h₂ hk₂
    refine kcp_assign hh (hp2.at fun o q => F₂.keep _ _ q) hxb hxc hp F₂.ns fun h₄ tk₄ hn₄ hk₄ => ?_
    have hL₀ : h₀.get? env.locals = none := Heap.get?_none_of_le F'.above
    have F₄ : Fr h₀ env.locals h₄ (fun y => if y = xc then some (.str c tc) else if y = xb then some (.int b tb) else m' y) :=
      ⟨hn₄, fun b o q => hk₄ b o (fun r => by rw [r, hL₀] at q; cases q) (F₂.keep b o q), F'.above⟩
    obtain ⟨oi, hoi, hoc, hod⟩ := hst₂.1
    have hi₄ : h₄.get? I = some oi := hk₄ I _ (Ne.symm hLI) hoi
    have N₄ : News h₀ env.locals h₄ ((I, oi) :: nw) := fun p hp => by
      rcases List.mem_cons.mp hp with rfl | hp
      · exact ⟨hi₄, Ne.symm hLI, hI₀⟩
      · exact ⟨hk₄ _ _ (N₂ p hp).2.1 (N₂ p hp).1, (N₂ p hp).2⟩
    refine wpAny_passesOwn hE (wpAny_mono (turn i b c tb tc m' nw I oi h₄ tk₄ hbc hj hoff F₄ N₄) (fun f s₃ q => ?_) fun _ _ e => e)
    have fin : (∃ h' tk' m' nw', s₃ = { ({ s with heap := h₄, toks := tk₄ } : Shared) with heap := h', toks := tk' } ∧ Fr h₀ env.locals h' m' ∧ News h₀ env.locals h' ((I, oi) :: nw') ∧ (∀ p ∈ nw', p.1 ≠ I) ∧ J (i + 1) m' nw') →
        ∃ mm, mm < items.size + 1 - i ∧ ∃ h' tk m' nw, ∃ i' : Nat, s₃ = { s with heap := h', toks := tk } ∧ (h'.IsTupleIter I ax i' ∧ h'.IsTuple ax items) ∧ Fr h₀ env.locals h' m' ∧ News h₀ env.locals h' nw ∧ (∀ p ∈ nw, p.1 ≠ I) ∧ J i' m' nw ∧ i' ≤ items.size ∧ mm = items.size + 1 - i' := by
      rintro ⟨h₅, tk₅, m₅, nw₅, rfl, F₅, N₅, o₅, j₅⟩
      exact ⟨items.size + 1 - (i + 1), by omega, h₅, tk₅, m₅, nw₅, i + 1, rfl, ⟨⟨oi, (N₅ _ (.head _)).1, hoc, hod⟩, hax.at fun o q => F₅.keep _ _ q⟩, F₅, fun p hp => N₅ p (.tail _ hp), o₅, j₅, hlt, rfl⟩
    cases f with
    | ret v => exact q
    | brk => exact q
    | next => exact fin q
    | cont => exact fin q
  · obtain rfl : i = items.size := Nat.le_antisymm hi (Nat.not_lt.mp hlt)
    refine W.done _ _ _ hst' fun h₂ tk₂ hk₂ => ?_
    obtain ⟨F₂, N₂⟩ := upF h₂ hk₂
    rw [hsz] at hj
    exact wpAny_passesOwn hE (done m' nw h₂ tk₂ hj F₂ N₂)
end HforAt_pairs
section V
variable {prog : Program} {w : World} {A : Around} {E : Value → Shared → Prop} {s : Shared} {env : Env} {h₀ : Heap} {body orelse : List Stmt} {Q : Flow → Shared → Prop}
theorem forAt_pairs {xb xc : Str} {pk pv tp : Pos} {x1 : Nat} {ax : Addr} {es : List (Int × Str)} {items : Array Value} {m₀ : Str → Option Value} {news : List (Addr × Obj)} (hax : h₀.IsTuple ax items) (hsz : items.size = es.length)
    (hes : ∀ (k : Nat) (b : Int) (c : Str), es[k]? = some (b, c) → ∃ (p : Addr) (tb tc : Tok), items[k]? = some (Value.ref p) ∧ h₀.IsTuple p #[.int b tb, .str c tc])
    (J : Nat → (Str → Option Value) → List (Addr × Obj) → Prop) (hh : A.handled = none) (hE : PassesOwn (model prog w) A env E) (hxb : env.kindOf xb = some .local) (hxc : env.kindOf xc = some .local)
    (hp : (env.scope.kind == .class || (env.scope.kind == .module && env.locals != env.globals)) = false) (F : Fr h₀ env.locals s.heap m₀) (N : News h₀ env.locals s.heap news) (h0 : J 0 m₀ news)
    (turn : ∀ (k : Nat) (b : Int) (c : Str) (tb tc : Tok) m nw it oi h tk, es[k]? = some (b, c) → J k m nw → (∀ p ∈ nw, p.1 ≠ it) → Fr h₀ env.locals h (fun y => if y = xc then some (.str c tc) else if y = xb then some (.int b tb) else m y) → News h₀ env.locals h ((it, oi) :: nw) →
      wpAny (model prog w) A (execs body env) (TurnT h₀ env.locals (J (k + 1)) it oi { s with heap := h, toks := tk } Q) E { s with heap := h, toks := tk })
    (done : ∀ m nw h tk, J es.length m nw → Fr h₀ env.locals h m → News h₀ env.locals h nw → wpAny (model prog w) A (execs orelse env) Q E { s with heap := h, toks := tk }) :
    ForAt prog w A env (.Tuple [.Name xb pk, .Name xc pv] x1 tp) body orelse Q E (.ref ax) s :=
  eps_allz (z := HforAt_pairs.z₀) (P := fun z : HforAt_pairs.Dat => HforAt_pairs.Pre z.1 z.2.1 z.2.2.1 z.2.2.2.1 z.2.2.2.2.1 z.2.2.2.2.2.1 z.2.2.2.2.2.2.1 z.2.2.2.2.2.2.2.1 z.2.2.2.2.2.2.2.2.1 z.2.2.2.2.2.2.2.2.2.1 z.2.2.2.2.2.2.2.2.2.2.1 z.2.2.2.2.2.2.2.2.2.2.2.1 z.2.2.2.2.2.2.2.2.2.2.2.2.1 z.2.2.2.2.2.2.2.2.2.2.2.2.2.1 z.2.2.2.2.2.2.2.2.2.2.2.2.2.2.1 z.2.2.2.2.2.2.2.2.2.2.2.2.2.2.2.1 z.2.2.2.2.2.2.2.2.2.2.2.2.2.2.2.2.1 z.2.2.2.2.2.2.2.2.2.2.2.2.2.2.2.2.2.1 z.2.2.2.2.2.2.2.2.2.2.2.2.2.2.2.2.2.2.1 z.2.2.2.2.2.2.2.2.2.2.2.2.2.2.2.2.2.2.2.1 z.2.2.2.2.2.2.2.2.2.2.2.2.2.2.2.2.2.2.2.2.1 z.2.2.2.2.2.2.2.2.2.2.2.2.2.2.2.2.2.2.2.2.2) (by delta HforAt_pairs.z₀; exact rfl) (by with_unfolding_all exact HforAt_pairs.main) (prog, w, A, E, s, env, h₀, body, orelse, Q, xb, xc, pk, pv, tp, x1, ax, es, items, m₀, news, J) hax hsz hes hh hE hxb hxc hp F N h0 turn done
end V
end
end
section
open PySem.W.X
example : True := by
  k_with_none
  w_top off
  (k_with "ite" => (k_closed; (first | (refine ite_pos (by with_reducible assumption) ?_) | (refine ite_neg (by with_reducible assumption) ?_) | (refine ite_isFalse (by with_reducible assumption) ?_) | k_dflt (refine ite_pos (by decide) ?_) | k_dflt (refine ite_neg (by decide) ?_) | (refine ite_pos (by k_dec) ?_) | (refine ite_neg (by k_dec) ?_))))
  (k_with "k_room" => (first | exact room_of (by assumption) 0 rfl | exact room_of (by assumption) 1 rfl | exact room_of (by assumption) 2 rfl | exact room_of (by assumption) 3 rfl | exact room_of (by assumption) 4 rfl | exact room_of (by assumption) 5 rfl | exact room_of (by assumption) 6 rfl))
  (k_with "my enter" => ((first
    | (refine' code_def ?k1 ?k2 ?k3 ?k4 ?k5 ?kA ?kF ?kK ?k6 ?k7 ?k8 ?k9 ?kB ?_ ?c2 ?c3 ?c4 ?c5; (case kA => exact rfl); (case kF => exact rfl); (case kK => first | exact rfl | assumption); (case k1 => k_asm); (case k2 => k_asm); (case k3 => k_asm); (case k4 => k_asm); (case k5 => k_asm); (case k6 => k_is); (case k7 => k_is); (case k8 => k_room); (case k9 => first | exact BindsTo.of_eq rfl | exact binds_K (by k_in) rfl (by k_is) rfl rfl rfl | fail "k_enter: no rule for these arguments"); (case c5 => decide); (case kB => exact locs rfl); (case c2 => exact rfl); (case c3 => exact rfl); (case c4 => exact rfl); k_whole; intro g' L' h' FG' F' N' B' X' T'; (try dsimp only); (try k_lift B'); (try k_fold))
    | (refine' code_defC ?k1 ?k2 ?k3 ?k4 ?k5 ?kA ?kF ?kK ?k6 ?k7 ?k8 ?k9 ?kB ?kD ?_ ?c2 ?c3 ?c4; (case kA => exact rfl); (case kF => exact rfl); (case kK => first | exact rfl | assumption); (case k1 => k_asm); (case k2 => k_asm); (case k3 => k_asm); (case k4 => k_asm); (case k5 => k_asm); (case k6 => k_is); (case k7 => k_is); (case k8 => k_room); (case k9 => first | exact BindsTo.of_eq rfl | exact binds_K (by k_in) rfl (by k_is) rfl rfl rfl | fail "k_enter: no rule for these arguments"); (case kB => exact rfl); (case kD => decide +kernel); (case c2 => exact rfl); (case c3 => exact rfl); (case c4 => exact rfl); k_whole; intro g' L' h' tk' cells' FG' F' N' Y' B' X' T' l1; (try k_lt l1); k_cells Y'; (try simp only [List.cons_append, List.nil_append] at N'); (try dsimp only); (try k_lift B'); (try k_fold)))))
  (k_with "call builtin:len" => (((with_reducible show wpAny _ _ (call (Value.builtin _) [Value.str _ _]) _ _ _); refine len_str (by omega) ?_)))
  (k_with "SearchPost" => (((with_reducible show SearchPost _ _ _ _ _ _ _ _ _ (Flow.ret _) _); dsimp only [SearchPost])))
  (k_with "execs cons" => ((k_here; (with_reducible show wpAny _ _ _ _ _ (Shared.mk _ _ _ (_ + _) _)); refine gentoks 1 (by first | omega | (dsimp only; omega)) ?_; intro _ _)))
  (k_with "execs nil" => ((k_here; (with_reducible show wpAny _ _ _ _ _ (Shared.mk _ _ _ (_ + _) _)); refine gentoks 1 (by first | omega | (dsimp only; omega)) ?_; intro _ _)))
  (k_with "my sub" => (first | exact fun _ h => h | exact fun _ h => List.mem_cons_of_mem _ h | exact fun _ h => List.mem_cons_of_mem _ (List.mem_cons_of_mem _ h) | exact fun _ h => List.mem_cons_of_mem _ (List.mem_cons_of_mem _ (List.mem_cons_of_mem _ h))))
  (k_with "k_all" => (first | assumption | exact off_of (by assumption) (by omega)))
  (k_with "my le" => (first | exact le_of 0 rfl (by assumption) | exact le_of 1 rfl (by assumption) | exact le_of 2 rfl (by assumption) | exact le_of 3 rfl (by assumption) | exact le_of 6 rfl (by assumption) | exact le_of 4 rfl (by assumption) | exact le_of 5 rfl (by assumption)))
  trivial
theorem ifmt_con (w : World) (news : List (Addr × Obj)) (x : Int) (t : Tok) :
    Con 480 w 138 [.int x t] news (fun v news' => news' = news ∧ ∃ t', v = .int (Builtin.bitAnd x 61440) t') := by
  intro dp un hdp hun gd cn cs a ccd cl outer A₀ base h₀ L m s Q E mean mg mb B F X N T hk hQ
  refine wpAny_call ?_
  k_dflt (refine' code_frz ?k1 ?k2 ?k3 ?k4 ?k5 ?kA ?kF ?kK ?k6 ?k7 ?k8 ?k9 ?kB ?_ ?c2 ?c3 ?c4 ?c5; (case kA => exact rfl); (case kF => exact rfl); (case kK => first | exact rfl | assumption); (case k1 => k_asm); (case k2 => k_asm); (case k3 => k_asm); (case k4 => k_asm); (case k5 => k_asm); (case k6 => k_is); (case k7 => k_is); (case k8 => k_room); (case k9 => first | exact BindsTo.of_eq rfl | exact binds_K (by k_in) rfl (by k_is) rfl rfl rfl | fail "k_enter: no rule for these arguments"); (case c5 => decide); (case kB => exact locs rfl); (case c2 => exact rfl); (case c3 => exact rfl); (case c4 => exact rfl); k_whole; intro g1 L1 hp1 FG1 F1 N1 B1 X1 T1 hn1; (try dsimp only))
  k_steps
  all_goals (try k_data)
  intro hN
  exact hQ _ _ _ _ ⟨rfl, _, rfl⟩ (by assumption) hN
section
variable {w : World} {A : Around} {E : Value → Shared → Prop} {s : Shared} {h₀ : Heap} {L : Addr} {m : Str → Option Value} {news : List (Addr × Obj)} {Q : Value → Shared → Prop}
theorem en_K (F : Fr h₀ L s.heap m) (N : News h₀ L s.heap news) (X₀ : (hd.heap_1 w.params).In h₀)
    (h : ∀ e it h' tk, Fr h₀ L h' m → News h₀ L h' news → IsEnum h' e it 0 .none → h'.IsTupleIter it 178 0 → e ≠ it → (∀ p ∈ news, p.1 ≠ e ∧ p.1 ≠ it) → L ≠ e → L ≠ it → h₀.get? e = none → h₀.get? it = none → Q (.ref e) { s with heap := h', toks := tk }) :
    wpAny (model P w) A (call (.type "enumerate") [.ref 178]) Q E s := by
  refine en178 w A s (X₀.keeps F.keep) Q E fun e it h' tk M => ?_
  have hk : ∀ b o, s.heap.get? b = some o → h'.get? b = some o := fun b o e => M.keep b o e (by simp [away])
  obtain ⟨e1, e2⟩ := M.nw _ (.head _)
  obtain ⟨i1, i2⟩ := M.nw _ (.tail _ (.head _))
  have hord := M.ord
  simp only [List.map_cons, List.map_nil, List.pairwise_cons, List.mem_singleton, forall_eq] at hord
  have hn0 : ∀ b, s.heap.get? b = none → h₀.get? b = none := fun b q => by
    cases z : h₀.get? b with
    | none => rfl
    | some o => rw [F.keep b o z] at q; cases q
  obtain ⟨oL, _, _, hL, _⟩ := F.ns
  refine h e it h' tk (F.keeps hk) (fun q hq => ⟨hk _ _ (N q hq).1, (N q hq).2⟩) e1 ⟨_, i1, rfl, rfl⟩ (Nat.ne_of_gt hord.1) (fun p hp => ⟨fun q => ?_, fun q => ?_⟩) (fun q => ?_) (fun q => ?_) (hn0 _ e2) (hn0 _ i2)
  · have z := (N p hp).1; rw [q, e2] at z; cases z
  · have z := (N p hp).1; rw [q, i2] at z; cases z
  · rw [q, e2] at hL; cases hL
  · rw [q, i2] at hL; cases hL
end
noncomputable def it178 : Array Value := #[.ref 153, .ref 155, .ref 157, .ref 161, .ref 163, .ref 165, .ref 169, .ref 171, .ref 173, .ref 177]
theorem at178 (w : World) : ∃ n d sl, List.lookup 178 (hd.heap_1 w.params) = some { cls := .type "tuple", dict := d, data := .seq it178 n, slots := sl } := ⟨_, _, _, rfl⟩
noncomputable def tabE : Nat → List (Int × Str)
  | 0 => [(40960, Str.ofString "l"), (49152, Str.ofString "s"), (32768, Str.ofString "-"), (24576, Str.ofString "b"), (16384, Str.ofString "d"), (8192, Str.ofString "c"), (4096, Str.ofString "p")]
  | 1 => [(256, Str.ofString "r")]
  | 2 => [(128, Str.ofString "w")]
  | 3 => [(2112, Str.ofString "s"), (2048, Str.ofString "S"), (64, Str.ofString "x")]
  | 4 => [(32, Str.ofString "r")]
  | 5 => [(16, Str.ofString "w")]
  | 6 => [(1032, Str.ofString "s"), (1024, Str.ofString "S"), (8, Str.ofString "x")]
  | 7 => [(4, Str.ofString "r")]
  | 8 => [(2, Str.ofString "w")]
  | 9 => [(513, Str.ofString "t"), (512, Str.ofString "T"), (1, Str.ofString "x")]
  | _ => []
theorem tabs (w : World) {g : Heap} (X : (hd.heap_1 w.params).In g) (i : Nat) (v : Value) (h : it178[i]? = some v) : ∃ (a : Addr) (items : Array Value), v = .ref a ∧ g.IsTuple a items ∧ items.size = (tabE i).length ∧
    ∀ (k : Nat) (b : Int) (c : Str), (tabE i)[k]? = some (b, c) → ∃ (p : Addr) (tb tc : Tok), items[k]? = some (Value.ref p) ∧ g.IsTuple p #[.int b tb, .str c tc] := by
  match i, h with
  | 0, h =>
    cases h
    refine ⟨153, #[.ref 146, .ref 147, .ref 148, .ref 149, .ref 150, .ref 151, .ref 152], rfl, ⟨_, X 153 _ rfl, rfl, _, rfl⟩, rfl, fun k b c hk => ?_⟩
    match k, hk with
    | 0, hk => cases hk; exact ⟨146, _, _, rfl, ⟨_, X 146 _ rfl, rfl, _, rfl⟩⟩
    | 1, hk => cases hk; exact ⟨147, _, _, rfl, ⟨_, X 147 _ rfl, rfl, _, rfl⟩⟩
    | 2, hk => cases hk; exact ⟨148, _, _, rfl, ⟨_, X 148 _ rfl, rfl, _, rfl⟩⟩
    | 3, hk => cases hk; exact ⟨149, _, _, rfl, ⟨_, X 149 _ rfl, rfl, _, rfl⟩⟩
    | 4, hk => cases hk; exact ⟨150, _, _, rfl, ⟨_, X 150 _ rfl, rfl, _, rfl⟩⟩
    | 5, hk => cases hk; exact ⟨151, _, _, rfl, ⟨_, X 151 _ rfl, rfl, _, rfl⟩⟩
    | 6, hk => cases hk; exact ⟨152, _, _, rfl, ⟨_, X 152 _ rfl, rfl, _, rfl⟩⟩
    | _ + 7, hk => cases hk
  | 1, h =>
    cases h
    refine ⟨155, #[.ref 154], rfl, ⟨_, X 155 _ rfl, rfl, _, rfl⟩, rfl, fun k b c hk => ?_⟩
    match k, hk with
    | 0, hk => cases hk; exact ⟨154, _, _, rfl, ⟨_, X 154 _ rfl, rfl, _, rfl⟩⟩
    | _ + 1, hk => cases hk
  | 2, h =>
    cases h
    refine ⟨157, #[.ref 156], rfl, ⟨_, X 157 _ rfl, rfl, _, rfl⟩, rfl, fun k b c hk => ?_⟩
    match k, hk with
    | 0, hk => cases hk; exact ⟨156, _, _, rfl, ⟨_, X 156 _ rfl, rfl, _, rfl⟩⟩
    | _ + 1, hk => cases hk
  | 3, h =>
    cases h
    refine ⟨161, #[.ref 158, .ref 159, .ref 160], rfl, ⟨_, X 161 _ rfl, rfl, _, rfl⟩, rfl, fun k b c hk => ?_⟩
    match k, hk with
    | 0, hk => cases hk; exact ⟨158, _, _, rfl, ⟨_, X 158 _ rfl, rfl, _, rfl⟩⟩
    | 1, hk => cases hk; exact ⟨159, _, _, rfl, ⟨_, X 159 _ rfl, rfl, _, rfl⟩⟩
    | 2, hk => cases hk; exact ⟨160, _, _, rfl, ⟨_, X 160 _ rfl, rfl, _, rfl⟩⟩
    | _ + 3, hk => cases hk
  | 4, h =>
    cases h
    refine ⟨163, #[.ref 162], rfl, ⟨_, X 163 _ rfl, rfl, _, rfl⟩, rfl, fun k b c hk => ?_⟩
    match k, hk with
    | 0, hk => cases hk; exact ⟨162, _, _, rfl, ⟨_, X 162 _ rfl, rfl, _, rfl⟩⟩
    | _ + 1, hk => cases hk
  | 5, h =>
    cases h
    refine ⟨165, #[.ref 164], rfl, ⟨_, X 165 _ rfl, rfl, _, rfl⟩, rfl, fun k b c hk => ?_⟩
    match k, hk with
    | 0, hk => cases hk; exact ⟨164, _, _, rfl, ⟨_, X 164 _ rfl, rfl, _, rfl⟩⟩
    | _ + 1, hk => cases hk
  | 6, h =>
    cases h
    refine ⟨169, #[.ref 166, .ref 167, .ref 168], rfl, ⟨_, X 169 _ rfl, rfl, _, rfl⟩, rfl, fun k b c hk => ?_⟩
    match k, hk with
    | 0, hk => cases hk; exact ⟨166, _, _, rfl, ⟨_, X 166 _ rfl, rfl, _, rfl⟩⟩
    | 1, hk => cases hk; exact ⟨167, _, _, rfl, ⟨_, X 167 _ rfl, rfl, _, rfl⟩⟩
    | 2, hk => cases hk; exact ⟨168, _, _, rfl, ⟨_, X 168 _ rfl, rfl, _, rfl⟩⟩
    | _ + 3, hk => cases hk
  | 7, h =>
    cases h
    refine ⟨171, #[.ref 170], rfl, ⟨_, X 171 _ rfl, rfl, _, rfl⟩, rfl, fun k b c hk => ?_⟩
    match k, hk with
    | 0, hk => cases hk; exact ⟨170, _, _, rfl, ⟨_, X 170 _ rfl, rfl, _, rfl⟩⟩
    | _ + 1, hk => cases hk
  | 8, h =>
    cases h
    refine ⟨173, #[.ref 172], rfl, ⟨_, X 173 _ rfl, rfl, _, rfl⟩, rfl, fun k b c hk => ?_⟩
    match k, hk with
    | 0, hk => cases hk; exact ⟨172, _, _, rfl, ⟨_, X 172 _ rfl, rfl, _, rfl⟩⟩
    | _ + 1, hk => cases hk
  | 9, h =>
    cases h
    refine ⟨177, #[.ref 174, .ref 175, .ref 176], rfl, ⟨_, X 177 _ rfl, rfl, _, rfl⟩, rfl, fun k b c hk => ?_⟩
    match k, hk with
    | 0, hk => cases hk; exact ⟨174, _, _, rfl, ⟨_, X 174 _ rfl, rfl, _, rfl⟩⟩
    | 1, hk => cases hk; exact ⟨175, _, _, rfl, ⟨_, X 175 _ rfl, rfl, _, rfl⟩⟩
    | 2, hk => cases hk; exact ⟨176, _, _, rfl, ⟨_, X 176 _ rfl, rfl, _, rfl⟩⟩
    | _ + 3, hk => cases hk
  | _ + 10, h => cases h
theorem tab_ok : ∀ (i k : Nat) (b : Int) (c : Str), (tabE i)[k]? = some (b, c) → c.length = 1 := by
  intro i k b c h
  have : ∀ e ∈ tabE i, e.2.length = 1 := by
    match i with
    | 0 => decide +kernel
    | 1 => decide +kernel
    | 2 => decide +kernel
    | 3 => decide +kernel
    | 4 => decide +kernel
    | 5 => decide +kernel
    | 6 => decide +kernel
    | 7 => decide +kernel
    | 8 => decide +kernel
    | 9 => decide +kernel
    | _ + 10 => intro e he; cases he
  exact this (b, c) (List.mem_of_getElem? h)
theorem tab_dash : ∀ (k : Nat) (b : Int) (c : Str), (tabE 0)[k]? = some (b, c) → (c == Str.ofString "-") = (b == 32768) := by
  intro k b c h
  have : ∀ e ∈ tabE 0, (e.2 == Str.ofString "-") = (e.1 == 32768) := by decide +kernel
  exact this (b, c) (List.mem_of_getElem? h)
theorem tab_has : (tabE 0)[2]? = some (32768, Str.ofString "-") := rfl
noncomputable abbrev fmM (x : Int) (t : Tok) (pl : Addr) (u : Str → Option Value) : Str → Option Value := fun z => if z = Str.ofString "mode" then some (.int x t) else if z = Str.ofString "perm" then some (.ref pl) else u z
theorem fmM_of {x : Int} {t : Tok} {pl : Addr} {m : Str → Option Value} (h1 : m (Str.ofString "mode") = some (.int x t)) (h2 : m (Str.ofString "perm") = some (.ref pl)) : m = fmM x t pl m := by
  funext z
  unfold fmM
  by_cases e : z = Str.ofString "mode"
  · rw [if_pos e, e]; exact h1
  rw [if_neg e]
  by_cases e : z = Str.ofString "perm"
  · rw [if_pos e, e]; exact h2
  rw [if_neg e]
theorem fr_eq' {g h : Heap} {L : Addr} {m m' : Str → Option Value} (F : Fr g L h m) (e : m = m') : Fr g L h m' := e ▸ F
noncomputable abbrev isF (x : Int) : Bool := Builtin.bitAnd x 61440 == 32768
noncomputable def FmOk (x : Int) (i : Nat) (vs : List Value) : Prop := ∃ ys, StrsAre vs ys ∧ ys.length = i ∧ (∀ y ∈ ys, y.length = 1) ∧ (∀ c r, ys = c :: r → (c == Str.ofString "-") = isF x)
noncomputable def FmJ (x : Int) (t : Tok) (i : Nat) (m : Str → Option Value) (nw : List (Addr × Obj)) : Prop := ∃ pl vs n u, m = fmM x t pl u ∧ nw = [(pl, W.listOf (List.toArray vs) n)] ∧ FmOk x i vs
theorem fm_next {x : Int} {t : Tok} {i : Nat} {pl : Addr} {n : Nat} {vs : List Value} {c : Str} {tc : Tok} {m : Str → Option Value} (h1 : m (Str.ofString "mode") = some (.int x t)) (h2 : m (Str.ofString "perm") = some (.ref pl)) (h : FmOk x i vs) (hc : c.length = 1) (h0 : i = 0 → (c == Str.ofString "-") = isF x) :
    FmJ x t (i + 1) m [(pl, W.listOf (vs.toArray.push (.str c tc)) n)] := by
  obtain ⟨ys, hs, hl, h3, h4⟩ := h
  refine ⟨pl, vs ++ [.str c tc], n, m, fmM_of h1 h2, by rw [← List.push_toArray], ys ++ [c], kct_snoc hs, by simp [hl], fun y hy => ?_, fun c' r e => ?_⟩
  · rcases List.mem_append.mp hy with hy | hy
    · exact h3 y hy
    · rw [List.mem_singleton.mp hy]; exact hc
  · cases ys with
    | nil => cases e; exact h0 hl.symm
    | cons c0 r0 => cases e; exact h4 _ _ rfl
theorem turnE_next {h₀ h' : Heap} {L e it : Addr} {oe oi : Obj} {J : (Str → Option Value) → List (Addr × Obj) → Prop} {s₁ : Shared} {Q : Flow → Shared → Prop} {m' : Str → Option Value} {nw : List (Addr × Obj)} {tk : Nat} (F : Fr h₀ L h' m') (N : News h₀ L h' ((e, oe) :: (it, oi) :: nw)) (o : ∀ p ∈ nw, p.1 ≠ e ∧ p.1 ≠ it) (j : J m' nw) :
    TurnE h₀ L J e oe it oi s₁ Q .next { s₁ with heap := h', toks := tk } := ⟨_, _, _, _, rfl, F, N, o, j⟩
theorem lt10 {i : Nat} {v : Value} (h : it178[i]? = some v) : i < 10 := by
  rcases Array.getElem?_eq_some_iff.mp h with ⟨h, _⟩
  exact h
theorem sum_one : ∀ ys : List Str, (∀ y ∈ ys, y.length = 1) → (ys.map (·.length)).sum = ys.length
  | [], _ => rfl
  | y :: r, h => by
    rw [List.map_cons, List.sum_cons, h y (.head _), sum_one r fun z hz => h z (.tail _ hz), List.length_cons]; omega
theorem item_app {c X : Str} (h : c.length = 1) : Txt.item (c ++ X) 0 = c := by
  obtain ⟨⟨l⟩⟩ := c
  match l, h with
  | [k], _ => exact item_zero_left k [] X
theorem join_first (sep c : Str) (r : List Str) : ∃ X, Txt.join sep (c :: r) = c ++ X := by
  show ∃ X, PySem.Builtin.Str.glued sep (c :: r) = c ++ X
  rw [StrLaws.glued_eq_join]
  cases r with
  | nil => exact ⟨Str.empty, (Str.append_empty c).symm⟩
  | cons y r => exact ⟨sep ++ Str.join sep (y :: r), by rw [← Str.append_assoc]; rfl⟩
theorem join_len (ys : List Str) : (Txt.join (Str.ofString "") ys).length ≤ (ys.map (·.length)).sum := by
  show (PySem.Builtin.Str.glued _ ys).length ≤ _
  rw [StrLaws.glued_eq_join]
  have := StrLaws.join_length_le (Str.ofString "") ys
  rw [show (Str.ofString "").length = 0 from rfl] at this
  omega
theorem turnT_brk {h₀ : Heap} {L it : Addr} {oi : Obj} {J : (Str → Option Value) → List (Addr × Obj) → Prop} {s₁ s₂ : Shared} {Q : Flow → Shared → Prop} (h : Q .next s₂) : TurnT h₀ L J it oi s₁ Q .brk s₂ := h
theorem turnT_next {h₀ h' : Heap} {L it : Addr} {oi : Obj} {J : (Str → Option Value) → List (Addr × Obj) → Prop} {s₁ : Shared} {Q : Flow → Shared → Prop} {m' : Str → Option Value} {nw : List (Addr × Obj)} {tk : Nat} (F : Fr h₀ L h' m') (N : News h₀ L h' ((it, oi) :: nw)) (o : ∀ p ∈ nw, p.1 ≠ it) (j : J m' nw) :
    TurnT h₀ L J it oi s₁ Q .next { s₁ with heap := h', toks := tk } := ⟨_, _, _, _, rfl, F, N, o, j⟩
theorem nwE {pl e it : Addr} {o : Obj} (h1 : @Ne Nat pl e) (h2 : @Ne Nat pl it) : ∀ p ∈ [((pl, o) : Addr × Obj)], p.1 ≠ e ∧ p.1 ≠ it := fun p hp => by rw [List.mem_singleton.mp hp]; exact ⟨h1, h2⟩
theorem nwT {pl e it it8 : Addr} {oe oi o o' : Obj} (_h : @Ne Nat pl it8) (h : ∀ p ∈ [((e, oe) : Addr × Obj), (it, oi), (pl, o)], p.1 ≠ it8) : ∀ p ∈ [((e, oe) : Addr × Obj), (it, oi), (pl, o)], p.1 ≠ it8 := h
noncomputable abbrev inM (x : Int) (t : Tok) (pl : Addr) (i : Int) (ti : Tok) (u : Str → Option Value) : Str → Option Value := fun z => if z = Str.ofString "mode" then some (.int x t) else if z = Str.ofString "perm" then some (.ref pl) else if z = Str.ofString "index" then some (.int i ti) else u z
theorem inM_of {x : Int} {t : Tok} {pl : Addr} {i : Int} {ti : Tok} {m : Str → Option Value} (h1 : m (Str.ofString "mode") = some (.int x t)) (h2 : m (Str.ofString "perm") = some (.ref pl)) (h3 : m (Str.ofString "index") = some (.int i ti)) : m = inM x t pl i ti m := by
  funext z
  unfold inM
  by_cases e : z = Str.ofString "mode"
  · rw [if_pos e, e]; exact h1
  rw [if_neg e]
  by_cases e : z = Str.ofString "perm"
  · rw [if_pos e, e]; exact h2
  rw [if_neg e]
  by_cases e : z = Str.ofString "index"
  · rw [if_pos e, e]; exact h3
  rw [if_neg e]
example : True := by
  (k_with "exec For Tuple Name" => ((k_here; refine for_at ?_ (by intro _; with_unfolding_all rfl))))
  (k_with "exec For Tuple Call" => ((k_here; refine for_at ?_ (by intro _; with_unfolding_all rfl))))
  (k_with "call type:enumerate" => ((k_here; (rename Fr _ _ _ _ => lF'); (rename News _ _ _ _ => lN'); k_dflt (refine en_K lF' lN' (by assumption) ?_); clear lF' lN'; intro e9 it9 h9 tk9 F9 N9 en9 ti9 ne9 off9 le9 li9 ge9 gi9)))
  (k_with "call ref" => ((k_here; (with_reducible show wpAny _ _ (call (Value.ref 138) [Value.int _ _]) _ _ _); (rename Fr _ _ _ _ => lF'); (rename News _ _ _ _ => lN'); k_dflt (refine (ifmt_con _ _ _ _).use lF' lN' (by with_unfolding_all rfl) (by k_extra "my le") (by k_extra "my le") (by assumption) (by assumption) (by assumption) (by rfl) ?_); clear lF' lN'; intro v' news' h' tk' hp' F' N'; (obtain ⟨e1', t', e2'⟩ := hp'; subst e1' e2'))))
  trivial
namespace Hfm_con
noncomputable def Pre (w : World) (news : List (Addr × Obj)) (x : Int) (t : Tok) (cd : CD) : Prop :=
  cd.Ok 470 w 185 [.int x t] news (fun v news' => news' = news ∧ ∃ y t', v = .str y t' ∧ 1 ≤ y.length ∧ y.length ≤ 64 ∧ (Txt.item y 0 == Str.ofString "-") = isF x)
noncomputable abbrev Dat : Type := World × (List (Addr × Obj)) × Int × Tok × CD
noncomputable def d₀ : Dat := (wd, [], 0, (0 : Nat), CD.d)
@[irreducible] noncomputable def z₀ : Dat := eps d₀ fun z => ¬ Pre z.1 z.2.1 z.2.2.1 z.2.2.2.1 z.2.2.2.2
@[irreducible] noncomputable def w : World := z₀.1
@[irreducible] noncomputable def news : List (Addr × Obj) := z₀.2.1
@[irreducible] noncomputable def x : Int := z₀.2.2.1
@[irreducible] noncomputable def t : Tok := z₀.2.2.2.1
@[irreducible] noncomputable def cd : CD := z₀.2.2.2.2
@[irreducible] noncomputable def ent : (B : Heap → Addr → Heap → Prop) ×' ((∀ g L h, B g L h) → Pre w news x t cd) := by
  apply PSigma.mk
  intro hB
  intro hdp hun B F X N T hQ
  have hk : (⟨.function, cd.cnm, cd.cg, cd.cc, cd.cm⟩ : Scope).kind = .function := rfl
  refine wpAny_call ?_
  k_dflt (refine' code_frz ?k1 ?k2 ?k3 ?k4 ?k5 ?kA ?kF ?kK ?k6 ?k7 ?k8 ?k9 ?kB ?_ ?c2 ?c3 ?c4 ?c5; (case kA => exact rfl); (case kF => exact rfl); (case kK => first | exact rfl | assumption); (case k1 => k_asm); (case k2 => k_asm); (case k3 => k_asm); (case k4 => k_asm); (case k5 => k_asm); (case k6 => k_is); (case k7 => k_is); (case k8 => k_room); (case k9 => first | exact BindsTo.of_eq rfl | exact binds_K (by k_in) rfl (by k_is) rfl rfl rfl | fail "k_enter: no rule for these arguments"); (case c5 => decide); (case kB => exact locs rfl); (case c2 => exact rfl); (case c3 => exact rfl); (case c4 => exact rfl); k_whole; intro g1 L1 hp1 FG1 F1 N1 B1 X1 T1 hn1; (try dsimp only))
  clear hk
  revert hdp hun B F X N T hQ FG1 F1 N1 B1 X1 T1 hn1
  exact hB g1 L1 hp1
noncomputable abbrev Dat₂ : Type := Heap × Addr × Heap
@[irreducible] noncomputable def z₂ : Dat₂ := eps ({}, (0 : Nat), {}) fun z => ¬ ent.1 z.1 z.2.1 z.2.2
@[irreducible] noncomputable def g1 : Heap := z₂.1
@[irreducible] noncomputable def L1 : Addr := z₂.2.1
@[irreducible] noncomputable def hp1 : Heap := z₂.2.2
theorem body : ent.1 g1 L1 hp1 := by
  delta ent
  intro hdp hun B F X N T hQ FG1 F1 N1 B1 X1 T1 hn1
  have hk : (⟨.function, cd.cnm, cd.cg, cd.cc, cd.cm⟩ : Scope).kind = .function := rfl
  k_steps
  all_goals (try k_data)
  obtain ⟨nt, dt, slt, e178⟩ := at178 w
  have h178 := X1 _ _ e178
  (rename Fr g1 L1 _ _ => lF'); (rename News g1 L1 _ _ => lN')
  have k178 := lF'.keep _ _ h178
  have i178 := (⟨_, k178, rfl, nt, rfl⟩ : Heap.IsTuple _ 178 it178)
  with_unfolding_all refine' forAt_enum (draws_tup (items := it178) ?hh0 _ _ ?hne) (FmJ x t) ?hh ?hE ?hxi ?hxc ?hp ?F ?N h178 ?en ?st ?hei off9 ?hLe ?hLi ?he₀ ?hi₀ ?h0 ?turn ?done
  case F => exact lF'
  case N => exact lN'
  case en => exact en9
  case st => exact ⟨ti9, i178⟩
  case hh0 => rfl
  case hh => rfl
  case hE => passes_own
  case hxi => rfl
  case hxc => rfl
  case hp => rfl
  case hei => assumption
  case hLe => assumption
  case hLi => assumption
  case he₀ => assumption
  case hi₀ => assumption
  case hne => exact fun q => by rw [← q, h178] at gi9; cases gi9
  case h0 => exact ⟨_, [], _, _, fmM_of rfl rfl, rfl, [], .nil, rfl, (fun _ h => by cases h), (fun _ _ h => by cases h)⟩
  case turn =>
    clear lF' lN' en9 ti9 off9
    intro i v tv m nw oe oi h tk hv hj hoff F2 N2
    obtain ⟨pl, vs, n, u, rfl, rfl, hok⟩ := hj
    have hpe := hoff _ (.head _)
    have hlen : vs.length = i := by obtain ⟨ys, h1, h2, _⟩ := hok; rw [← h2]; exact h1.length
    obtain ⟨ax, items, rfl, hax, hsz, hes⟩ := tabs w X1 i v hv
    have hn0 : @Ne Nat pl e9 := hpe.1
    have hn1' : @Ne Nat pl it9 := hpe.2
    have hi10 : i < 10 := lt10 hv
    clear hoff hv hpe
    rcases i with _ | i
    · have F3 : Fr g1 L1 h (fun y => if y = Str.ofString "table" then some (.ref ax) else if y = Str.ofString "index" then some (.int 0 tv) else fmM x t pl u y) := F2
      have N3 : News g1 L1 h [(e9, oe), (it9, oi), (pl, W.listOf vs.toArray n)] := N2
      clear F2 N2
      k_steps
      (rename Fr g1 L1 _ _ => lF'); (rename News g1 L1 _ _ => lN')
      with_unfolding_all refine' forAt_pairs (xb := Str.ofString "bit") (xc := Str.ofString "char") hax hsz hes (fun k m nw => (∃ u, m = inM x t pl 0 tv u) ∧ nw = [(e9, oe), (it9, oi), (pl, W.listOf vs.toArray n)] ∧ ∀ (k' : Nat) (b : Int) (c : Str), k' < k → (tabE 0)[k']? = some (b, c) → Builtin.bitAnd x 61440 ≠ b) ?hh2 ?hE2 ?hxb ?hxc2 ?hp2 ?F2 ?N2 ?h02 ?turn2 ?done2
      case hh2 => rfl
      case hE2 => passes_own
      case hxb => rfl
      case hxc2 => rfl
      case hp2 => rfl
      case F2 => exact lF'
      case N2 => exact lN'
      case h02 => exact ⟨⟨_, inM_of rfl rfl rfl⟩, rfl, fun _ _ _ h => absurd h (Nat.not_lt_zero _)⟩
      case turn2 =>
        clear lF' lN'
        intro k b c tb tc m nw it8 oi8 h8 tk8 hbc hj hoff F8 N8
        obtain ⟨⟨u, rfl⟩, rfl, hno⟩ := hj
        have F9 : Fr g1 L1 h8 (fun y => if y = Str.ofString "char" then some (.str c tc) else if y = Str.ofString "bit" then some (.int b tb) else inM x t pl 0 tv u y) := F8
        have N9 : News g1 L1 h8 [(it8, oi8), (e9, oe), (it9, oi), (pl, W.listOf vs.toArray n)] := N8
        have hn2 : @Ne Nat pl it8 := hoff _ (.tail _ (.tail _ (.head _)))
        clear F8 N8
        k_steps
        · refine turnT_brk ?_
          k_steps
          (rename Fr g1 L1 _ _ => lF'); (rename News g1 L1 _ _ => lN')
          exact turnE_next lF' (cb_drop lN' fun _ h => .tail _ h) (nwE hn0 hn1') (fm_next rfl rfl hok (tab_ok _ _ _ _ hbc) fun _ => by rw [tab_dash _ _ _ hbc, ← (by assumption : Builtin.bitAnd x 61440 = b)])
        · (rename Fr g1 L1 _ _ => lF'); (rename News g1 L1 _ _ => lN')
          exact turnT_next lF' lN' hoff ⟨⟨_, inM_of rfl rfl rfl⟩, rfl, fun k' b' c' hk' hb' => (by
            rcases Nat.lt_succ_iff_lt_or_eq.mp hk' with hk' | rfl
            · exact hno k' b' c' hk' hb'
            · rw [hbc] at hb'; cases hb'
              assumption)⟩
      case done2 =>
        clear lF' lN'
        rintro m nw h8 tk8 ⟨⟨u, rfl⟩, rfl, hno⟩ F8 N8
        have F9 : Fr g1 L1 h8 (inM x t pl 0 tv u) := F8
        have N9 : News g1 L1 h8 [(e9, oe), (it9, oi), (pl, W.listOf vs.toArray n)] := N8
        clear F8 N8
        k_steps
        (rename Fr g1 L1 _ _ => lF'); (rename News g1 L1 _ _ => lN')
        exact turnE_next lF' lN' (nwE hn0 hn1') (fm_next rfl rfl hok (by decide +kernel) fun _ => (by rw [show isF x = false from beq_eq_false_iff_ne.mpr (hno 2 _ _ (by decide) tab_has)]; decide +kernel))
    · have F3 : Fr g1 L1 h (fun y => if y = Str.ofString "table" then some (.ref ax) else if y = Str.ofString "index" then some (.int ((i : Int) + 1) tv) else fmM x t pl u y) := F2
      have N3 : News g1 L1 h [(e9, oe), (it9, oi), (pl, W.listOf vs.toArray n)] := N2
      have hi0 : ((i : Int) + 1 == 0) = false := beq_eq_false_iff_ne.mpr (by omega)
      clear F2 N2
      k_steps
      (rename Fr g1 L1 _ _ => lF'); (rename News g1 L1 _ _ => lN')
      with_unfolding_all refine' forAt_pairs (xb := Str.ofString "bit") (xc := Str.ofString "char") hax hsz hes (fun k m nw => (∃ u, m = inM x t pl ((i : Int) + 1) tv u) ∧ nw = [(e9, oe), (it9, oi), (pl, W.listOf vs.toArray n)] ∧ True) ?hh2 ?hE2 ?hxb ?hxc2 ?hp2 ?F2 ?N2 ?h02 ?turn2 ?done2
      case hh2 => rfl
      case hE2 => passes_own
      case hxb => rfl
      case hxc2 => rfl
      case hp2 => rfl
      case F2 => exact lF'
      case N2 => exact lN'
      case h02 => exact ⟨⟨_, inM_of rfl rfl rfl⟩, rfl, trivial⟩
      case turn2 =>
        clear lF' lN'
        intro k b c tb tc m nw it8 oi8 h8 tk8 hbc hj hoff F8 N8
        obtain ⟨⟨u, rfl⟩, rfl, hno⟩ := hj
        have F9 : Fr g1 L1 h8 (fun y => if y = Str.ofString "char" then some (.str c tc) else if y = Str.ofString "bit" then some (.int b tb) else inM x t pl ((i : Int) + 1) tv u y) := F8
        have N9 : News g1 L1 h8 [(it8, oi8), (e9, oe), (it9, oi), (pl, W.listOf vs.toArray n)] := N8
        have hn2 : @Ne Nat pl it8 := hoff _ (.tail _ (.tail _ (.head _)))
        clear F8 N8
        k_steps
        · refine turnT_brk ?_
          k_steps
          (rename Fr g1 L1 _ _ => lF'); (rename News g1 L1 _ _ => lN')
          exact turnE_next lF' (cb_drop lN' fun _ h => .tail _ h) (nwE hn0 hn1') (fm_next rfl rfl hok (tab_ok _ _ _ _ hbc) fun h => absurd h (Nat.succ_ne_zero _))
        · (rename Fr g1 L1 _ _ => lF'); (rename News g1 L1 _ _ => lN')
          exact turnT_next lF' lN' hoff ⟨⟨_, inM_of rfl rfl rfl⟩, rfl, trivial⟩
      case done2 =>
        clear lF' lN'
        rintro m nw h8 tk8 ⟨⟨u, rfl⟩, rfl, hno⟩ F8 N8
        have F9 : Fr g1 L1 h8 (inM x t pl ((i : Int) + 1) tv u) := F8
        have N9 : News g1 L1 h8 [(e9, oe), (it9, oi), (pl, W.listOf vs.toArray n)] := N8
        clear F8 N8
        k_steps
        (rename Fr g1 L1 _ _ => lF'); (rename News g1 L1 _ _ => lN')
        exact turnE_next lF' lN' (nwE hn0 hn1') (fm_next rfl rfl hok (by decide +kernel) fun h => absurd h (Nat.succ_ne_zero _))
  case done =>
    clear lF' lN' en9 ti9 off9 i178 k178
    rintro m nw h tk ⟨pl, vs, n, u, rfl, rfl, hok⟩ F2 N2
    have F3 : Fr g1 L1 h (fmM x t pl u) := F2
    clear F2
    obtain ⟨ys, hs, hl, h1, h0⟩ := hok
    k_steps
    (rename News g1 L1 _ _ => lN')
    have hz := lN' _ (.head _)
    have hsum := sum_one ys h1
    have hl10 : ys.length = 10 := hl
    refine join_listW (ys := ys) (items := vs.toArray) ⟨_, hz.1, rfl, _, rfl⟩ hs (by decide) (by omega) ?_
    intro t9 k9
    k_steps
    intro hN
    have hlj := join_len ys
    cases ys with
    | nil => cases hl10
    | cons c r =>
      obtain ⟨X, eX⟩ := join_first (Str.ofString "") c r
      have hc := h1 c (.head _)
      refine hQ _ _ _ _ ⟨rfl, _, _, rfl, ?_, by omega, ?_⟩ (by assumption) hN
      · rw [eX, Str.length_append]; omega
      · rw [eX, item_app hc]; exact h0 c r rfl
theorem main : Pre w news x t cd := PSigma.snd ent (eps_all3 (P := ent.1) (z := z₂) (by delta z₂; exact rfl) (by delta g1; exact rfl) (by delta L1; exact rfl) (by delta hp1; exact rfl) body)
end Hfm_con
theorem fm_con (w : World) (news : List (Addr × Obj)) (x : Int) (t : Tok) :
    Con 470 w 185 [.int x t] news (fun v news' => news' = news ∧ ∃ y t', v = .str y t' ∧ 1 ≤ y.length ∧ y.length ≤ 64 ∧ (Txt.item y 0 == Str.ofString "-") = isF x) :=
  con_of fun c => eps_allz (z := Hfm_con.z₀) (P := fun z : Hfm_con.Dat => Hfm_con.Pre z.1 z.2.1 z.2.2.1 z.2.2.2.1 z.2.2.2.2) (by delta Hfm_con.z₀; exact rfl) (by with_unfolding_all exact Hfm_con.main) (w, news, x, t, c) 
end
section
open PySem.W.X PyProof.Rows.LCg
/-- the ledger lies off the four objects of an enumerating comprehension -/
noncomputable def Off4 (I it C D : Addr) (news : List (Addr × Obj)) : Prop := ∀ p ∈ news, p.1 ≠ I ∧ p.1 ≠ it ∧ p.1 ≠ C ∧ p.1 ≠ D
noncomputable def Ne4 (I it C D : Addr) : Prop := (@Ne Nat I it) ∧ (@Ne Nat I C) ∧ (@Ne Nat I D) ∧ (@Ne Nat it C) ∧ (@Ne Nat it D) ∧ (@Ne Nat C D)
noncomputable def EcEnd (h₀ : Heap) (L : Addr) (m : Str → Option Value) (s₁ : Shared) (I : Addr) (oI : Obj) (it : Addr) (oi : Obj) (C : Addr) (oC : Obj) (D : Addr) (oD : Obj) (ax : Addr) (lo : Obj) (rest : Value → List (Addr × Obj) → Prop) (y : Value) (s₂ : Shared) : Prop :=
  ∃ h' tk news', s₂ = { s₁ with heap := h', toks := tk } ∧ Fr h₀ L h' m ∧ News h₀ L h' ((I, oI) :: (it, oi) :: (C, oC) :: (D, oD) :: news') ∧ Off4 I it C D news' ∧ (ax, lo) ∈ news' ∧ rest y news'
theorem EcEnd.mk {h₀ h' : Heap} {L I it C D ax : Addr} {m : Str → Option Value} {s₁ : Shared} {oI oi oC oD lo : Obj} {rest : Value → List (Addr × Obj) → Prop} {y : Value} {tk : Nat} {news' : List (Addr × Obj)}
    (F : Fr h₀ L h' m) (N : News h₀ L h' ((I, oI) :: (it, oi) :: (C, oC) :: (D, oD) :: news')) (o : Off4 I it C D news') (hm : (ax, lo) ∈ news') (r : rest y news') : EcEnd h₀ L m s₁ I oI it oi C oC D oD ax lo rest y { s₁ with heap := h', toks := tk } := ⟨_, _, _, rfl, F, N, o, hm, r⟩
noncomputable def EcRest (prog : Program) (w : World) (A : Around) (h₀ : Heap) (L : Addr) (m : Str → Option Value) (env : Env) (c elt : PySem.Expr) (a b : Str) (scope : Scope) (cl : List (Str × Addr)) (s : Shared) (ax : Addr) (lo : Obj) (Fin : List Value → List (Addr × Obj) → Prop) : List Value → Nat → List Value → List (Addr × Obj) → Prop
  | [], _, ys, news => Fin ys news
  | v :: r, i, ys, news => ∀ (t : Tok) I oI it oi C oC D m₂ h tk (E' : Value → Shared → Prop), NsObj oC m₂ → m₂ a = some (.int (i : Int) t) → m₂ b = some v → Fr h₀ L h m → News h₀ L h ((I, oI) :: (it, oi) :: (C, oC) :: (D, LCg.lst ys) :: news) → Off4 I it C D news → Ne4 I it C D →
      wpAny (model prog w) A (isTrue c (compEnvC scope cl C env) (eval c (compEnvC scope cl C env))) (fun okb s₃ => if okb = true then
        wpAny (model prog w) A (eval elt (compEnvC scope cl C env)) (EcEnd h₀ L m { s with heap := h, toks := tk } I oI it oi C oC D (LCg.lst ys) ax lo (fun y news' => EcRest prog w A h₀ L m env c elt a b scope cl s ax lo Fin r (i + 1) (ys ++ [y]) news')) E' s₃
        else EcEnd h₀ L m { s with heap := h, toks := tk } I oI it oi C oC D (LCg.lst ys) ax lo (fun _ news' => EcRest prog w A h₀ L m env c elt a b scope cl s ax lo Fin r (i + 1) ys news') .none s₃) E' { s with heap := h, toks := tk }
section
section V
variable {prog : Program} {w : World} {A : Around} {E : Value → Shared → Prop} {s : Shared} {h₀ : Heap} {L : Addr} {m : Str → Option Value} {env : Env}
end V
namespace Hec_block
noncomputable def Pre (prog : Program) (w : World) (A : Around) (E : Value → Shared → Prop) (h₀ : Heap) (L : Addr) (m : Str → Option Value) (env : Env) (elt : PySem.Expr) (iter : PySem.Expr) (c : PySem.Expr) (a : Str) (b : Str) (pa : Pos) (pb : Pos) (tp : Pos) (kk : Nat) (scope : Scope) (cl : List (Str × Addr)) (pos : Pos) (s₂ : Shared) (e : Addr) (it : Addr) (ax : Addr) (lo : Obj) (vs : List Value) (n : Nat) (news : List (Addr × Obj)) (Fin : List Value → List (Addr × Obj) → Prop) (RR : Value → Addr → Result → Shared → Prop) : Prop :=
  (A.handled = none) → (e ≠ it) → (lo.cls = .type "list") → (lo.data = .seq vs.toArray n) → (vs.length ≤ sizeLine) → (IsEnum s₂.heap e it 0 .none) → (s₂.heap.IsListIter it ax 0) → ((ax, lo) ∈ news) → (∀ y ∈ scope.names, y.2 ≠ .cell) → (scope.kind = .function) → (scope.names.lookup a = some .local) → (scope.names.lookup b = some .local) → (¬ a = b) → (Fr h₀ L s₂.heap m) → (News h₀ L s₂.heap news) → (L ≠ e) → (L ≠ it) → (h₀.get? e = none) → (h₀.get? it = none) → (∀ p ∈ news, p.1 ≠ e ∧ p.1 ≠ it) → (EcRest prog w A h₀ L m env c elt a b scope cl s₂ ax lo Fin vs 0 [] news) → (∀ D C h tk m' ys news', Fr h₀ L h m → News h₀ L h ((D, LCg.lst ys) :: news') → (∀ p ∈ news', p.1 ≠ D) → h.Ns C m' → h₀.get? C = none → h₀.get? D = none → C ≠ L → D ≠ L → C ≠ D → (∀ p ∈ news', p.1 ≠ C) → Fin ys news' → RR (.ref D) C (.ok .next) { s₂ with heap := h, toks := tk }) → wpAny (model prog w) A (newList []) (fun acc s₃ => wpAny (model prog w) A (newFunctionEnv scope env.globals cl [] env.qual none .none (some env)) (fun cenv s₄ =>
      codeAny (model prog w) A (.compStart (.ListComp elt [⟨.Tuple [.Name a pa, .Name b pb] kk tp, iter, [c], 0⟩] scope pos) 0 (.ref e) acc { cenv with scope := relabel scope env }) (RR acc cenv.locals) s₄) E s₃) E s₂
noncomputable abbrev Dat : Type := Program × World × Around × (Value → Shared → Prop) × Heap × Addr × (Str → Option Value) × Env × PySem.Expr × PySem.Expr × PySem.Expr × Str × Str × Pos × Pos × Pos × Nat × Scope × (List (Str × Addr)) × Pos × Shared × Addr × Addr × Addr × Obj × (List Value) × Nat × (List (Addr × Obj)) × (List Value → List (Addr × Obj) → Prop) × (Value → Addr → Result → Shared → Prop)
noncomputable def d₀ : Dat := (default, wd, ⟨none, 0, none, none, 1⟩, (fun _ _ => True), {}, (0 : Nat), (fun _ => none), default, default, default, default, (Str.ofString ""), (Str.ofString ""), default, default, default, 0, default, [], default, ⟨{}, #[], {}, 1, {}⟩, (0 : Nat), (0 : Nat), (0 : Nat), default, [], 0, [], (fun _ _ => True), (fun _ _ _ _ => True))
@[irreducible] noncomputable def z₀ : Dat := eps d₀ fun z => ¬ Pre z.1 z.2.1 z.2.2.1 z.2.2.2.1 z.2.2.2.2.1 z.2.2.2.2.2.1 z.2.2.2.2.2.2.1 z.2.2.2.2.2.2.2.1 z.2.2.2.2.2.2.2.2.1 z.2.2.2.2.2.2.2.2.2.1 z.2.2.2.2.2.2.2.2.2.2.1 z.2.2.2.2.2.2.2.2.2.2.2.1 z.2.2.2.2.2.2.2.2.2.2.2.2.1 z.2.2.2.2.2.2.2.2.2.2.2.2.2.1 z.2.2.2.2.2.2.2.2.2.2.2.2.2.2.1 z.2.2.2.2.2.2.2.2.2.2.2.2.2.2.2.1 z.2.2.2.2.2.2.2.2.2.2.2.2.2.2.2.2.1 z.2.2.2.2.2.2.2.2.2.2.2.2.2.2.2.2.2.1 z.2.2.2.2.2.2.2.2.2.2.2.2.2.2.2.2.2.2.1 z.2.2.2.2.2.2.2.2.2.2.2.2.2.2.2.2.2.2.2.1 z.2.2.2.2.2.2.2.2.2.2.2.2.2.2.2.2.2.2.2.2.1 z.2.2.2.2.2.2.2.2.2.2.2.2.2.2.2.2.2.2.2.2.2.1 z.2.2.2.2.2.2.2.2.2.2.2.2.2.2.2.2.2.2.2.2.2.2.1 z.2.2.2.2.2.2.2.2.2.2.2.2.2.2.2.2.2.2.2.2.2.2.2.1 z.2.2.2.2.2.2.2.2.2.2.2.2.2.2.2.2.2.2.2.2.2.2.2.2.1 z.2.2.2.2.2.2.2.2.2.2.2.2.2.2.2.2.2.2.2.2.2.2.2.2.2.1 z.2.2.2.2.2.2.2.2.2.2.2.2.2.2.2.2.2.2.2.2.2.2.2.2.2.2.1 z.2.2.2.2.2.2.2.2.2.2.2.2.2.2.2.2.2.2.2.2.2.2.2.2.2.2.2.1 z.2.2.2.2.2.2.2.2.2.2.2.2.2.2.2.2.2.2.2.2.2.2.2.2.2.2.2.2.1 z.2.2.2.2.2.2.2.2.2.2.2.2.2.2.2.2.2.2.2.2.2.2.2.2.2.2.2.2.2
@[irreducible] noncomputable def prog : Program := z₀.1
@[irreducible] noncomputable def w : World := z₀.2.1
@[irreducible] noncomputable def A : Around := z₀.2.2.1
@[irreducible] noncomputable def E : Value → Shared → Prop := z₀.2.2.2.1
@[irreducible] noncomputable def h₀ : Heap := z₀.2.2.2.2.1
@[irreducible] noncomputable def L : Addr := z₀.2.2.2.2.2.1
@[irreducible] noncomputable def m : Str → Option Value := z₀.2.2.2.2.2.2.1
@[irreducible] noncomputable def env : Env := z₀.2.2.2.2.2.2.2.1
@[irreducible] noncomputable def elt : PySem.Expr := z₀.2.2.2.2.2.2.2.2.1
@[irreducible] noncomputable def iter : PySem.Expr := z₀.2.2.2.2.2.2.2.2.2.1
@[irreducible] noncomputable def c : PySem.Expr := z₀.2.2.2.2.2.2.2.2.2.2.1
@[irreducible] noncomputable def a : Str := z₀.2.2.2.2.2.2.2.2.2.2.2.1
@[irreducible] noncomputable def b : Str := z₀.2.2.2.2.2.2.2.2.2.2.2.2.1
@[irreducible] noncomputable def pa : Pos := z₀.2.2.2.2.2.2.2.2.2.2.2.2.2.1
@[irreducible] noncomputable def pb : Pos := z₀.2.2.2.2.2.2.2.2.2.2.2.2.2.2.1
@[irreducible] noncomputable def tp : Pos := z₀.2.2.2.2.2.2.2.2.2.2.2.2.2.2.2.1
@[irreducible] noncomputable def kk : Nat := z₀.2.2.2.2.2.2.2.2.2.2.2.2.2.2.2.2.1
@[irreducible] noncomputable def scope : Scope := z₀.2.2.2.2.2.2.2.2.2.2.2.2.2.2.2.2.2.1
@[irreducible] noncomputable def cl : List (Str × Addr) := z₀.2.2.2.2.2.2.2.2.2.2.2.2.2.2.2.2.2.2.1
@[irreducible] noncomputable def pos : Pos := z₀.2.2.2.2.2.2.2.2.2.2.2.2.2.2.2.2.2.2.2.1
@[irreducible] noncomputable def s₂ : Shared := z₀.2.2.2.2.2.2.2.2.2.2.2.2.2.2.2.2.2.2.2.2.1
@[irreducible] noncomputable def e : Addr := z₀.2.2.2.2.2.2.2.2.2.2.2.2.2.2.2.2.2.2.2.2.2.1
@[irreducible] noncomputable def it : Addr := z₀.2.2.2.2.2.2.2.2.2.2.2.2.2.2.2.2.2.2.2.2.2.2.1
@[irreducible] noncomputable def ax : Addr := z₀.2.2.2.2.2.2.2.2.2.2.2.2.2.2.2.2.2.2.2.2.2.2.2.1
@[irreducible] noncomputable def lo : Obj := z₀.2.2.2.2.2.2.2.2.2.2.2.2.2.2.2.2.2.2.2.2.2.2.2.2.1
@[irreducible] noncomputable def vs : List Value := z₀.2.2.2.2.2.2.2.2.2.2.2.2.2.2.2.2.2.2.2.2.2.2.2.2.2.1
@[irreducible] noncomputable def n : Nat := z₀.2.2.2.2.2.2.2.2.2.2.2.2.2.2.2.2.2.2.2.2.2.2.2.2.2.2.1
@[irreducible] noncomputable def news : List (Addr × Obj) := z₀.2.2.2.2.2.2.2.2.2.2.2.2.2.2.2.2.2.2.2.2.2.2.2.2.2.2.2.1
@[irreducible] noncomputable def Fin : List Value → List (Addr × Obj) → Prop := z₀.2.2.2.2.2.2.2.2.2.2.2.2.2.2.2.2.2.2.2.2.2.2.2.2.2.2.2.2.1
@[irreducible] noncomputable def RR : Value → Addr → Result → Shared → Prop := z₀.2.2.2.2.2.2.2.2.2.2.2.2.2.2.2.2.2.2.2.2.2.2.2.2.2.2.2.2.2
theorem main : Pre prog w A E h₀ L m env elt iter c a b pa pb tp kk scope cl pos s₂ e it ax lo vs n news Fin RR := by
  intro hh hei hlc hld hsz he hit hax hcell hkind hxa hxb hab F N hLe hLi he₀ hi₀ off R hRR
  refine wpAny_newObj_type (wpAny_newFunctionEnv hcell (by intro y hy; simp at hy) (fun h₁ hns₁ hsb₁ => ?_) hkind)
  dsimp only at hns₁ hsb₁ ⊢
  generalize hH2 : s₂.heap.push { cls := .type "list", dict := none, data := .seq ([] : List Value).toArray } = H2 at hns₁ hsb₁ ⊢
  have hC : H2.objs.size = s₂.heap.objs.size + 1 := by rw [← hH2, Heap.size_push]
  have hDC : s₂.heap.objs.size ≠ H2.objs.size := by rw [hC]; exact Nat.ne_of_lt (Nat.lt_succ_self _)
  have below : ∀ b, b < s₂.heap.objs.size → b ≠ H2.objs.size ∧ b ≠ s₂.heap.objs.size := fun b hb => ⟨by rw [hC]; exact Nat.ne_of_lt (Nat.lt_succ_of_lt hb), Nat.ne_of_lt hb⟩
  have helt : e < s₂.heap.objs.size := Heap.lt_size he
  have hilt : it < s₂.heap.objs.size := let ⟨_, q, _⟩ := hit; Heap.lt_size q
  have old : ∀ b o, s₂.heap.get? b = some o → h₁.get? b = some o := fun b o q => hsb₁.extBut b o (below b (Heap.lt_size q)).1 (Heap.get?_push_of_some _ (hH2 ▸ Heap.get?_push_of_some _ q))
  have hacc : h₁.get? s₂.heap.objs.size = some (LCg.lst []) := hsb₁.extBut _ _ hDC (Heap.get?_push_of_some _ (hH2 ▸ Heap.get?_push_size _ rfl))
  have fresh₀ : ∀ a, s₂.heap.objs.size ≤ a → h₀.get? a = none := fun a ha => by
    cases q : h₀.get? a with
    | none => rfl
    | some o' => exact absurd (Heap.lt_size (F.keep a o' q)) (Nat.not_lt.mpr ha)
  have hD₀ : h₀.get? s₂.heap.objs.size = none := fresh₀ _ (Nat.le_refl _)
  have hC₀ : h₀.get? H2.objs.size = none := fresh₀ _ (by rw [hC]; exact Nat.le_succ _)
  have hLlt : L < s₂.heap.objs.size := F.ns.lt
  generalize hDn : s₂.heap.objs.size = D at hDC below helt hilt hacc hD₀ hLlt hC fresh₀ ⊢
  generalize hCn : H2.objs.size = C at hDC below hC₀ hC hns₁ hsb₁ ⊢
  have hDL : D ≠ L := Ne.symm (below L hLlt).2
  have hCL : C ≠ L := Ne.symm (below L hLlt).1
  have ne4 : Ne4 e it C D := ⟨hei, (below e helt).1, (below e helt).2, (below it hilt).1, (below it hilt).2, Ne.symm hDC⟩
  have off₀ : Off4 e it C D news := fun p hp => ⟨(off p hp).1, (off p hp).2, (below _ (hDn ▸ Heap.lt_size (N p hp).1)).1, (below _ (hDn ▸ Heap.lt_size (N p hp).1)).2⟩
  have hea : e ≠ ax := fun q => (off _ hax).1 q.symm
  have hia : ax ≠ it := fun q => (off _ hax).2 q
  have Dr := Draws.list (prog := prog) (w := w) (A := A.in1) hh it ax hia vs.toArray
  have W := WalksT.enumerateD Dr e hei (by simp [hei, hea]) (by simp)
  have lax : ∀ {h : Heap} {nw}, News h₀ L h nw → (ax, lo) ∈ nw → h.IsList ax vs.toArray := fun N' hm => ⟨lo, (N' _ hm).1, hlc, n, hld⟩
  have loop : ∀ s₃ : Shared, s₃ = { s₂ with heap := h₁, toks := s₂.toks + ([] : List (Str × Value)).length } →
      codeAny (model prog w) A (.compLoop (.ListComp elt [⟨.Tuple [.Name a pa, .Name b pb] kk tp, iter, [c], 0⟩] scope pos) 0 (.ref e) (.ref D) (compEnvC scope cl C env))
        (RR (.ref D) C) s₃ := by
    rintro s₃ rfl
    refine kct_loop
      (fun k s' => ∃ h' tk, ∃ i : Nat, ∃ ys m' news', s' = { s₂ with heap := h', toks := tk } ∧ i ≤ vs.length ∧ k = vs.length + 1 - i ∧ ys.length ≤ i ∧ (∃ old, IsEnum h' e it i old) ∧ h'.IsListIter it ax i ∧ Fr h₀ L h' m ∧ h'.Ns C m' ∧
        News h₀ L h' ((D, LCg.lst ys) :: news') ∧ Off4 e it C D news' ∧ (ax, lo) ∈ news' ∧ EcRest prog w A h₀ L m env c elt a b scope cl s₂ ax lo Fin (vs.drop i) i ys news') ?_ (vs.length + 1)
      ⟨h₁, _, 0, [], _, news, rfl, Nat.zero_le _, rfl, Nat.le_refl _, ⟨_, old _ _ he⟩, hit.at fun o q => old _ _ q, F.keeps old, hns₁, fun p hp => ?_, off₀, hax, by rw [List.drop_zero]; exact R⟩
    · rintro k s' ⟨h', tk, i, ys, m', news', rfl, hi, rfl, hyl, he', hit', F', hn', N', off', hax', R'⟩
      have N'' : News h₀ L h' news' := fun p hp => N' p (.tail _ hp)
      by_cases hlt : i < vs.length
      · refine W.item i _ _ _ (by simpa using hlt) ⟨he', hit', lax N'' hax'⟩ fun T vals h₂ tk₂ hPt hT hTup hMid hk₂ => ?_
        obtain ⟨t, x, hx, rfl⟩ := hPt
        refine W.go _ _ _ i T _ _ _ hMid fun h₃ hst₃ hk₃ => ?_
        have hT₃ : h₃.IsTuple T #[.int i t, x] := hTup.at fun o q => hk₃ T o (W.apart _ _ _ hMid) q
        have up₃ : ∀ c o, c ∉ [e, it] → h'.get? c = some o → h₃.get? c = some o := fun c o hc q => hk₃ c o hc (hk₂ c o hc q)
        refine kcp_assign (env := compEnvC scope cl C env) hh hT₃ (lookup_relabel_local hxa) (lookup_relabel_local hxb) (by simp [compEnvC, relabel, hkind]) (hn'.at' fun o q => up₃ _ o (by have := ne4; simp [Ne.symm (this.2.1), Ne.symm (this.2.2.2.1)]) q) fun h₄ tk₄ hn₄ hs₄ => ?_
        have up : ∀ c o, c ∉ [e, it] → c ≠ C → h'.get? c = some o → h₄.get? c = some o := fun c o h1 h2 q => hs₄ c o h2 (up₃ c o h1 q)
        obtain ⟨⟨old₃, he₃⟩, hit₃, _⟩ := hst₃
        obtain ⟨oe, hoe⟩ : ∃ oe : Obj, oe = { cls := .type "enumerate", dict := none, data := .fields #[.none, .bool false, .ref it, rawInt ((i + 1 : Nat) : Int), .none, old₃], slots := #[] } := ⟨_, rfl⟩
        have heC : e ≠ C := ne4.2.1
        have hiC : it ≠ C := ne4.2.2.2.1
        have he₄ : h₄.get? e = some oe := hs₄ e _ heC (by rw [hoe]; exact he₃)
        obtain ⟨oi, hoi, hoc, hod⟩ := hit₃
        have hi₄ : h₄.get? it = some oi := hs₄ it _ hiC hoi
        obtain ⟨oC, hcC, hoC⟩ := ns_obj hn₄
        have F₄ : Fr h₀ L h₄ m := ⟨F'.ns.at' fun o q => up _ o (by simp [hLe, hLi]) (Ne.symm hCL) q, fun c o q => up c o (fun hm => by
          rcases List.mem_cons.mp hm with r | hm
          · rw [r, he₀] at q; cases q
          · rw [List.mem_singleton.mp hm, hi₀] at q; cases q) (fun r => by rw [r, hC₀] at q; cases q) (F'.keep c o q), F'.above⟩
        have hxv : vs[i]'hlt = x := by
          have z : vs[i]? = some x := by simpa using hx
          rw [List.getElem?_eq_getElem hlt] at z
          exact Option.some.inj z
        have hdrop : vs.drop i = x :: vs.drop (i + 1) := by rw [List.drop_eq_getElem_cons hlt, hxv]
        rw [hdrop] at R'
        have hDe : D ∉ [e, it] := by simp [Ne.symm ne4.2.2.1, Ne.symm ne4.2.2.2.2.1]
        have N₄ : News h₀ L h₄ ((e, oe) :: (it, oi) :: (C, oC) :: (D, LCg.lst ys) :: news') := fun q hq => by
          rcases List.mem_cons.mp hq with rfl | hq
          · exact ⟨he₄, Ne.symm hLe, he₀⟩
          rcases List.mem_cons.mp hq with rfl | hq
          · exact ⟨hi₄, Ne.symm hLi, hi₀⟩
          rcases List.mem_cons.mp hq with rfl | hq
          · exact ⟨hcC, hCL, hC₀⟩
          have z := N' q hq
          refine ⟨up _ _ ?_ ?_ z.1, z.2⟩
          · rcases List.mem_cons.mp hq with rfl | hq
            · exact hDe
            · simp [(off' q hq).1, (off' q hq).2.1]
          · rcases List.mem_cons.mp hq with rfl | hq
            · exact hDC
            · exact (off' q hq).2.2.1
        have fin : ∀ (ys' : List Value) (h₅ : Heap) (tk₅ : Nat) (news₅ : List (Addr × Obj)), ys'.length ≤ i + 1 → Fr h₀ L h₅ m → News h₀ L h₅ ((e, oe) :: (it, oi) :: (C, oC) :: (D, LCg.lst ys') :: news₅) → Off4 e it C D news₅ → (ax, lo) ∈ news₅ →
            EcRest prog w A h₀ L m env c elt a b scope cl s₂ ax lo Fin (vs.drop (i + 1)) (i + 1) ys' news₅ →
            ∃ q', q' < vs.length + 1 - i ∧ (∃ h' tk, ∃ i : Nat, ∃ ys m' news', ({ s₂ with heap := h₅, toks := tk₅ } : Shared) = { s₂ with heap := h', toks := tk } ∧ i ≤ vs.length ∧ q' = vs.length + 1 - i ∧ ys.length ≤ i ∧ (∃ old, IsEnum h' e it i old) ∧ h'.IsListIter it ax i ∧ Fr h₀ L h' m ∧ h'.Ns C m' ∧
        News h₀ L h' ((D, LCg.lst ys) :: news') ∧ Off4 e it C D news' ∧ (ax, lo) ∈ news' ∧ EcRest prog w A h₀ L m env c elt a b scope cl s₂ ax lo Fin (vs.drop i) i ys news') := by
          intro ys' h₅ tk₅ news₅ hl F₅ N₅ off₅ hax₅ R₅
          have zI := (N₅ (e, oe) (.head _)).1
          have zi := (N₅ (it, oi) (.tail _ (.head _))).1
          have zC := (N₅ (C, oC) (.tail _ (.tail _ (.head _)))).1
          rw [hoe] at zI
          exact ⟨vs.length + 1 - (i + 1), by omega, h₅, tk₅, i + 1, ys', _, news₅, rfl, hlt, rfl, hl, ⟨old₃, zI⟩, ⟨oi, zi, hoc, hod⟩, F₅, hoC.ns zC, fun q hq => N₅ q (.tail _ (.tail _ (.tail _ hq))), off₅, hax₅, R₅⟩
        refine wpAny_mono (R' t e oe it oi C oC D _ h₄ _ _ hoC (by simp [hab]) (by simp) F₄ N₄ off' ne4) (fun okb s₅ h₅ => ?_) fun _ _ q => q
        cases okb with
        | false =>
          simp only [Bool.false_eq_true, if_false] at h₅ ⊢
          obtain ⟨h₅, tk₅, news₅, rfl, F₅, N₅, off₅, hax₅, R₅⟩ := h₅
          exact fin ys h₅ tk₅ news₅ (Nat.le_succ_of_le hyl) F₅ N₅ off₅ hax₅ R₅
        | true =>
          simp only [if_true] at h₅ ⊢
          refine wpAny_mono h₅ (fun y s₆ h₆ => ?_) fun _ _ q => q
          obtain ⟨h₅, tk₅, news₅, rfl, F₅, N₅, off₅, hax₅, R₅⟩ := h₆
          have zD := (N₅ (D, LCg.lst ys) (.tail _ (.tail _ (.tail _ (.head _))))).1
          refine append_at (hsz := by show ys.toArray.size ≤ sizeLine; rw [List.size_toArray]; exact Nat.le_trans hyl (Nat.le_trans hi hsz)) zD fun h₆ hs₆ hD₆ => ?_
          refine fin (ys ++ [y]) h₆ _ news₅ (by rw [List.length_append, List.length_singleton]; exact Nat.succ_le_succ hyl) (F₅.change hs₆ hDL hD₀) (fun q hq => ?_) off₅ hax₅ R₅
          rcases List.mem_cons.mp hq with rfl | hq
          · have z := N₅ (e, oe) (.head _)
            exact ⟨hs₆.extBut _ _ ne4.2.2.1 z.1, z.2⟩
          rcases List.mem_cons.mp hq with rfl | hq
          · have z := N₅ (it, oi) (.tail _ (.head _))
            exact ⟨hs₆.extBut _ _ ne4.2.2.2.2.1 z.1, z.2⟩
          rcases List.mem_cons.mp hq with rfl | hq
          · have z := N₅ (C, oC) (.tail _ (.tail _ (.head _)))
            exact ⟨hs₆.extBut _ _ ne4.2.2.2.2.2 z.1, z.2⟩
          rcases List.mem_cons.mp hq with rfl | hq
          · exact ⟨hD₆.trans (congrArg some (lst_snoc ys y)), hDL, hD₀⟩
          · have z := N₅ q (.tail _ (.tail _ (.tail _ (.tail _ hq))))
            exact ⟨hs₆.extBut _ _ (off₅ q hq).2.2.2 z.1, z.2⟩
      · have hin : i = vs.length := Nat.le_antisymm hi (Nat.not_lt.mp hlt)
        subst hin
        rw [List.drop_length] at R'
        refine W.done _ _ _ ⟨by simpa using he', by simpa using hit', lax N'' hax'⟩ fun h₂ tk₂ hk₂ => ?_
        have F₂ : Fr h₀ L h₂ m := ⟨F'.ns.at' fun o q => hk₂ _ o (by simp [hLe, hLi]) q, fun c o q => hk₂ c o (fun hm => by
          rcases List.mem_cons.mp hm with r | hm
          · rw [r, he₀] at q; cases q
          · rw [List.mem_singleton.mp hm, hi₀] at q; cases q) (F'.keep c o q), F'.above⟩
        refine hRR _ _ h₂ tk₂ _ ys news' F₂ (fun p hp => ⟨hk₂ _ _ ?_ (N' p hp).1, (N' p hp).2⟩) (fun p hp => (off' p hp).2.2.2) (hn'.at' fun o q => hk₂ _ o (by simp [Ne.symm ne4.2.1, Ne.symm ne4.2.2.2.1]) q) hC₀ hD₀ hCL hDL (Ne.symm hDC) (fun p hp => (off' p hp).2.2.1) R'
        rcases List.mem_cons.mp hp with rfl | hp
        · simp [Ne.symm ne4.2.2.1, Ne.symm ne4.2.2.2.2.1]
        · simp [(off' p hp).1, (off' p hp).2.1]
    · rcases List.mem_cons.mp hp with rfl | hp
      · exact ⟨hacc, hDL, hD₀⟩
      · exact ⟨old _ _ (N p hp).1, (N p hp).2⟩
  exact codeAny_compStart_list (loop _ rfl) (wpAny_pyIter_enum (old _ _ he) (loop _ rfl))
end Hec_block
section V
variable {prog : Program} {w : World} {A : Around} {E : Value → Shared → Prop} {s : Shared} {h₀ : Heap} {L : Addr} {m : Str → Option Value} {env : Env}
theorem ec_block {elt iter c : PySem.Expr} {a b : Str} {pa pb tp : Pos} {kk : Nat} {scope : Scope} {cl : List (Str × Addr)} {pos : Pos} {s₂ : Shared} {e it ax : Addr} {lo : Obj} {vs : List Value} {n : Nat} {news : List (Addr × Obj)}
    {Fin : List Value → List (Addr × Obj) → Prop} {RR : Value → Addr → Result → Shared → Prop}
    (hh : A.handled = none) (hei : e ≠ it) (hlc : lo.cls = .type "list") (hld : lo.data = .seq vs.toArray n) (hsz : vs.length ≤ sizeLine) (he : IsEnum s₂.heap e it 0 .none) (hit : s₂.heap.IsListIter it ax 0) (hax : (ax, lo) ∈ news)
    (hcell : ∀ y ∈ scope.names, y.2 ≠ .cell) (hkind : scope.kind = .function) (hxa : scope.names.lookup a = some .local) (hxb : scope.names.lookup b = some .local) (hab : ¬ a = b)
    (F : Fr h₀ L s₂.heap m) (N : News h₀ L s₂.heap news) (hLe : L ≠ e) (hLi : L ≠ it) (he₀ : h₀.get? e = none) (hi₀ : h₀.get? it = none) (off : ∀ p ∈ news, p.1 ≠ e ∧ p.1 ≠ it)
    (R : EcRest prog w A h₀ L m env c elt a b scope cl s₂ ax lo Fin vs 0 [] news)
    (hRR : ∀ D C h tk m' ys news', Fr h₀ L h m → News h₀ L h ((D, LCg.lst ys) :: news') → (∀ p ∈ news', p.1 ≠ D) → h.Ns C m' → h₀.get? C = none → h₀.get? D = none → C ≠ L → D ≠ L → C ≠ D → (∀ p ∈ news', p.1 ≠ C) → Fin ys news' → RR (.ref D) C (.ok .next) { s₂ with heap := h, toks := tk }) :
    wpAny (model prog w) A (newList []) (fun acc s₃ => wpAny (model prog w) A (newFunctionEnv scope env.globals cl [] env.qual none .none (some env)) (fun cenv s₄ =>
      codeAny (model prog w) A (.compStart (.ListComp elt [⟨.Tuple [.Name a pa, .Name b pb] kk tp, iter, [c], 0⟩] scope pos) 0 (.ref e) acc { cenv with scope := relabel scope env }) (RR acc cenv.locals) s₄) E s₃) E s₂ :=
  eps_allz (z := Hec_block.z₀) (P := fun z : Hec_block.Dat => Hec_block.Pre z.1 z.2.1 z.2.2.1 z.2.2.2.1 z.2.2.2.2.1 z.2.2.2.2.2.1 z.2.2.2.2.2.2.1 z.2.2.2.2.2.2.2.1 z.2.2.2.2.2.2.2.2.1 z.2.2.2.2.2.2.2.2.2.1 z.2.2.2.2.2.2.2.2.2.2.1 z.2.2.2.2.2.2.2.2.2.2.2.1 z.2.2.2.2.2.2.2.2.2.2.2.2.1 z.2.2.2.2.2.2.2.2.2.2.2.2.2.1 z.2.2.2.2.2.2.2.2.2.2.2.2.2.2.1 z.2.2.2.2.2.2.2.2.2.2.2.2.2.2.2.1 z.2.2.2.2.2.2.2.2.2.2.2.2.2.2.2.2.1 z.2.2.2.2.2.2.2.2.2.2.2.2.2.2.2.2.2.1 z.2.2.2.2.2.2.2.2.2.2.2.2.2.2.2.2.2.2.1 z.2.2.2.2.2.2.2.2.2.2.2.2.2.2.2.2.2.2.2.1 z.2.2.2.2.2.2.2.2.2.2.2.2.2.2.2.2.2.2.2.2.1 z.2.2.2.2.2.2.2.2.2.2.2.2.2.2.2.2.2.2.2.2.2.1 z.2.2.2.2.2.2.2.2.2.2.2.2.2.2.2.2.2.2.2.2.2.2.1 z.2.2.2.2.2.2.2.2.2.2.2.2.2.2.2.2.2.2.2.2.2.2.2.1 z.2.2.2.2.2.2.2.2.2.2.2.2.2.2.2.2.2.2.2.2.2.2.2.2.1 z.2.2.2.2.2.2.2.2.2.2.2.2.2.2.2.2.2.2.2.2.2.2.2.2.2.1 z.2.2.2.2.2.2.2.2.2.2.2.2.2.2.2.2.2.2.2.2.2.2.2.2.2.2.1 z.2.2.2.2.2.2.2.2.2.2.2.2.2.2.2.2.2.2.2.2.2.2.2.2.2.2.2.1 z.2.2.2.2.2.2.2.2.2.2.2.2.2.2.2.2.2.2.2.2.2.2.2.2.2.2.2.2.1 z.2.2.2.2.2.2.2.2.2.2.2.2.2.2.2.2.2.2.2.2.2.2.2.2.2.2.2.2.2) (by delta Hec_block.z₀; exact rfl) (by with_unfolding_all exact Hec_block.main) (prog, w, A, E, h₀, L, m, env, elt, iter, c, a, b, pa, pb, tp, kk, scope, cl, pos, s₂, e, it, ax, lo, vs, n, news, Fin, RR) hh hei hlc hld hsz he hit hax hcell hkind hxa hxb hab F N hLe hLi he₀ hi₀ off R hRR
/-- behind an assigned comprehension -/
noncomputable def FinY (h₀ : Heap) (L : Addr) (m : Str → Option Value) (s : Shared) (y : Str) (Q : Flow → Shared → Prop) (ys : List Value) (news : List (Addr × Obj)) : Prop :=
  ∀ D h tk, Fr h₀ L h (fun z => if z = y then some (.ref D) else m z) → News h₀ L h ((D, LCg.lst ys) :: news) → (∀ p ∈ news, p.1 ≠ D) → Q .next { s with heap := h, toks := tk }
noncomputable def EcSrc (prog : Program) (w : World) (A : Around) (h₀ : Heap) (L : Addr) (m : Str → Option Value) (env : Env) (c elt : PySem.Expr) (a b : Str) (scope : Scope) (cl : List (Str × Addr)) (Fin : Shared → List Value → List (Addr × Obj) → Prop) (xv : Value) (s₁ : Shared) : Prop :=
  ∃ (e it ax : Addr) (lo : Obj) (vs : List Value) (n : Nat) (news : List (Addr × Obj)), xv = .ref e ∧ A.handled = none ∧ e ≠ it ∧ lo.cls = .type "list" ∧ lo.data = .seq vs.toArray n ∧ vs.length ≤ sizeLine ∧ IsEnum s₁.heap e it 0 .none ∧ s₁.heap.IsListIter it ax 0 ∧ (ax, lo) ∈ news ∧
    Fr h₀ L s₁.heap m ∧ News h₀ L s₁.heap news ∧ L ≠ e ∧ L ≠ it ∧ h₀.get? e = none ∧ h₀.get? it = none ∧ (∀ p ∈ news, p.1 ≠ e ∧ p.1 ≠ it) ∧ EcRest prog w A h₀ L m env c elt a b scope cl s₁ ax lo (Fin s₁) vs 0 [] news
theorem ec_src {c elt : PySem.Expr} {a b : Str} {scope : Scope} {cl : List (Str × Addr)} {Fin : Shared → List Value → List (Addr × Obj) → Prop} {ax : Addr} {lo : Obj} {vs : List Value} {n : Nat} {news : List (Addr × Obj)}
    (hh : A.handled = none) (F : Fr h₀ L s.heap m) (N : News h₀ L s.heap news) (hax : (ax, lo) ∈ news) (hlc : lo.cls = .type "list") (hld : lo.data = .seq vs.toArray n) (hsz : vs.length ≤ sizeLine)
    (R : ∀ g, EcRest prog w A h₀ L m env c elt a b scope cl { s with heap := g } ax lo (Fin { s with heap := g }) vs 0 [] news) : wpAny (model prog w) A (call (.type "enumerate") [.ref ax]) (EcSrc prog w A h₀ L m env c elt a b scope cl Fin) E s := by
  refine call_enumerate_list ⟨lo, (N _ hax).1, hlc, n, hld⟩ fun h' he hit hsz' hk => ?_
  have hLs : L < s.heap.objs.size := F.ns.lt
  have fresh₀ : ∀ a, s.heap.objs.size ≤ a → h₀.get? a = none := fun a ha => by
    cases q : h₀.get? a with
    | none => rfl
    | some o' => exact absurd (Heap.lt_size (F.keep a o' q)) (Nat.not_lt.mpr ha)
  exact ⟨_, _, ax, lo, vs, n, news, rfl, hh, Nat.succ_ne_self _, hlc, hld, hsz, he, hit, hax, F.keeps hk, fun q hq => ⟨hk _ _ (N q hq).1, (N q hq).2⟩, Nat.ne_of_lt (Nat.lt_succ_of_lt hLs), Nat.ne_of_lt hLs, fresh₀ _ (Nat.le_succ _), fresh₀ _ (Nat.le_refl _),
    fun p hp => ⟨Nat.ne_of_lt (Nat.lt_succ_of_lt (Heap.lt_size (N p hp).1)), Nat.ne_of_lt (Heap.lt_size (N p hp).1)⟩, R h'⟩
end V
namespace Hec_Assign
noncomputable def Pre (prog : Program) (w : World) (A : Around) (E : Value → Shared → Prop) (s : Shared) (h₀ : Heap) (m : Str → Option Value) (env : Env) (elt : PySem.Expr) (iter : PySem.Expr) (c : PySem.Expr) (a : Str) (b : Str) (y : Str) (pa : Pos) (pb : Pos) (tp : Pos) (py : Pos) (kk : Nat) (scope : Scope) (cl : List (Str × Addr)) (pos : Pos) (spos : Pos) (Q : Flow → Shared → Prop) : Prop :=
  ∀ (L : Addr), (Fr h₀ L s.heap m) → (env.locals = L) → (swapsWith (.ListComp elt [⟨.Tuple [.Name a pa, .Name b pb] kk tp, iter, [c], 0⟩] scope pos) (some (.Name y py)) spos.line env = pure true) → (closureFor scope env = pure cl) → (∀ z ∈ scope.names, z.2 ≠ .cell) → (scope.kind = .function) → (∀ z ∈ scope.names, z.2 = .local → scope.names.lookup z.1 = some .local) → (scope.names.lookup a = some .local) → (scope.names.lookup b = some .local) → (¬ a = b) → (env.kindOf y = some .local) → ((env.scope.kind == .class || (env.scope.kind == .module && env.locals != env.globals)) = false) → (wpAny (model prog w) A (eval iter env) (EcSrc prog w A h₀ L m env c elt a b scope cl (fun s₂ => FinY h₀ L m s₂ y Q)) E s) → (∀ x, foldedSetIterable iter env x = pure x) → wpAny (model prog w) A (exec (.Assign [.Name y py] (.ListComp elt [⟨.Tuple [.Name a pa, .Name b pb] kk tp, iter, [c], 0⟩] scope pos) spos) env) Q E s
noncomputable abbrev Dat : Type := Program × World × Around × (Value → Shared → Prop) × Shared × Heap × (Str → Option Value) × Env × PySem.Expr × PySem.Expr × PySem.Expr × Str × Str × Str × Pos × Pos × Pos × Pos × Nat × Scope × (List (Str × Addr)) × Pos × Pos × (Flow → Shared → Prop)
noncomputable def d₀ : Dat := (default, wd, ⟨none, 0, none, none, 1⟩, (fun _ _ => True), ⟨{}, #[], {}, 1, {}⟩, {}, (fun _ => none), default, default, default, default, (Str.ofString ""), (Str.ofString ""), (Str.ofString ""), default, default, default, default, 0, default, [], default, default, (fun _ _ => True))
@[irreducible] noncomputable def z₀ : Dat := eps d₀ fun z => ¬ Pre z.1 z.2.1 z.2.2.1 z.2.2.2.1 z.2.2.2.2.1 z.2.2.2.2.2.1 z.2.2.2.2.2.2.1 z.2.2.2.2.2.2.2.1 z.2.2.2.2.2.2.2.2.1 z.2.2.2.2.2.2.2.2.2.1 z.2.2.2.2.2.2.2.2.2.2.1 z.2.2.2.2.2.2.2.2.2.2.2.1 z.2.2.2.2.2.2.2.2.2.2.2.2.1 z.2.2.2.2.2.2.2.2.2.2.2.2.2.1 z.2.2.2.2.2.2.2.2.2.2.2.2.2.2.1 z.2.2.2.2.2.2.2.2.2.2.2.2.2.2.2.1 z.2.2.2.2.2.2.2.2.2.2.2.2.2.2.2.2.1 z.2.2.2.2.2.2.2.2.2.2.2.2.2.2.2.2.2.1 z.2.2.2.2.2.2.2.2.2.2.2.2.2.2.2.2.2.2.1 z.2.2.2.2.2.2.2.2.2.2.2.2.2.2.2.2.2.2.2.1 z.2.2.2.2.2.2.2.2.2.2.2.2.2.2.2.2.2.2.2.2.1 z.2.2.2.2.2.2.2.2.2.2.2.2.2.2.2.2.2.2.2.2.2.1 z.2.2.2.2.2.2.2.2.2.2.2.2.2.2.2.2.2.2.2.2.2.2.1 z.2.2.2.2.2.2.2.2.2.2.2.2.2.2.2.2.2.2.2.2.2.2.2
@[irreducible] noncomputable def prog : Program := z₀.1
@[irreducible] noncomputable def w : World := z₀.2.1
@[irreducible] noncomputable def A : Around := z₀.2.2.1
@[irreducible] noncomputable def E : Value → Shared → Prop := z₀.2.2.2.1
@[irreducible] noncomputable def s : Shared := z₀.2.2.2.2.1
@[irreducible] noncomputable def h₀ : Heap := z₀.2.2.2.2.2.1
@[irreducible] noncomputable def m : Str → Option Value := z₀.2.2.2.2.2.2.1
@[irreducible] noncomputable def env : Env := z₀.2.2.2.2.2.2.2.1
@[irreducible] noncomputable def elt : PySem.Expr := z₀.2.2.2.2.2.2.2.2.1
@[irreducible] noncomputable def iter : PySem.Expr := z₀.2.2.2.2.2.2.2.2.2.1
@[irreducible] noncomputable def c : PySem.Expr := z₀.2.2.2.2.2.2.2.2.2.2.1
@[irreducible] noncomputable def a : Str := z₀.2.2.2.2.2.2.2.2.2.2.2.1
@[irreducible] noncomputable def b : Str := z₀.2.2.2.2.2.2.2.2.2.2.2.2.1
@[irreducible] noncomputable def y : Str := z₀.2.2.2.2.2.2.2.2.2.2.2.2.2.1
@[irreducible] noncomputable def pa : Pos := z₀.2.2.2.2.2.2.2.2.2.2.2.2.2.2.1
@[irreducible] noncomputable def pb : Pos := z₀.2.2.2.2.2.2.2.2.2.2.2.2.2.2.2.1
@[irreducible] noncomputable def tp : Pos := z₀.2.2.2.2.2.2.2.2.2.2.2.2.2.2.2.2.1
@[irreducible] noncomputable def py : Pos := z₀.2.2.2.2.2.2.2.2.2.2.2.2.2.2.2.2.2.1
@[irreducible] noncomputable def kk : Nat := z₀.2.2.2.2.2.2.2.2.2.2.2.2.2.2.2.2.2.2.1
@[irreducible] noncomputable def scope : Scope := z₀.2.2.2.2.2.2.2.2.2.2.2.2.2.2.2.2.2.2.2.1
@[irreducible] noncomputable def cl : List (Str × Addr) := z₀.2.2.2.2.2.2.2.2.2.2.2.2.2.2.2.2.2.2.2.2.1
@[irreducible] noncomputable def pos : Pos := z₀.2.2.2.2.2.2.2.2.2.2.2.2.2.2.2.2.2.2.2.2.2.1
@[irreducible] noncomputable def spos : Pos := z₀.2.2.2.2.2.2.2.2.2.2.2.2.2.2.2.2.2.2.2.2.2.2.1
@[irreducible] noncomputable def Q : Flow → Shared → Prop := z₀.2.2.2.2.2.2.2.2.2.2.2.2.2.2.2.2.2.2.2.2.2.2.2
theorem main : Pre prog w A E s h₀ m env elt iter c a b y pa pb tp py kk scope cl pos spos Q := by
  intro L _F₀ hLe hsw hclos hcell hkind hnames hxa hxb hab hy hp h hs
  subst hLe
  rw [exec_Assign_Name_used _ _ _ _ hsw]
  refine wpAny_bind (wpAny_standAt (wpAny_bind ?_))
  show wpAny _ A (do let _ ← comprehension (.ListComp elt [⟨.Tuple [.Name a pa, .Name b pb] kk tp, iter, [c], 0⟩] scope pos) scope env _ (newList []) false (eval iter env) (some (assign (.Name y py) env))) _ _ s
  refine wpAny_bind (wpAny_mono (wpAny_comprehension_free (use := some (assign (.Name y py) env)) (Q := fun _ s' => Q .next s') rfl hs hclos hkind hnames
    (wpAny_mono h (fun xv s₁ h₁ => ?_) fun _ _ e => e)) (fun _ s' hq => wpAny_pure (wpAny_pure hq)) fun _ _ e => e)
  obtain ⟨e, it, ax, lo, vs, n, news, rfl, hh, hei, hlc, hld, hsz, he, hit, hax, F, N, hLe, hLi, he₀, hi₀, off, R⟩ := h₁
  refine wpAny_pyIter_enum he ?_
  refine ec_block hh hei hlc hld hsz he hit hax hcell hkind hxa hxb hab F N hLe hLi he₀ hi₀ off R ?_
  intro D C h' tk m' ys news' F' N' o1 hn hC₀ hD₀ hCL hDL hCD offC fin
  show wpAny _ A (assign (.Name y py) env (.ref D)) _ _ _
  refine wpAny_assign_Name (wpAny_storeName_local hy F'.ns (fun h₂ hn₂ hs₂ => ?_) hp)
  have hL₀ : h₀.get? env.locals = none := Heap.get?_none_of_le F'.above
  have F₂ : Fr h₀ env.locals h₂ (fun z => if z = y then some (.ref D) else m z) := ⟨hn₂, fun b o e => hs₂.extBut b o (fun q => by rw [q, hL₀] at e; cases e) (F'.keep b o e), F'.above⟩
  refine ⟨m', hn.sameBut hs₂ hCL, fun h'' hs'' => fin D h'' _ (F₂.change hs'' hCL hC₀) (fun p hp => ?_) o1⟩
  have z : h₂.get? p.1 = some p.2 := hs₂.extBut _ _ (N' p hp).2.1 (N' p hp).1
  refine ⟨hs''.extBut _ _ ?_ z, (N' p hp).2⟩
  rcases List.mem_cons.mp hp with rfl | hp
  · exact Ne.symm hCD
  · exact offC p hp
end Hec_Assign
section V
variable {prog : Program} {w : World} {A : Around} {E : Value → Shared → Prop} {s : Shared} {h₀ : Heap} {L : Addr} {m : Str → Option Value} {env : Env}
theorem ec_Assign {elt iter c : PySem.Expr} {a b y : Str} {pa pb tp py : Pos} {kk : Nat} {scope : Scope} {cl : List (Str × Addr)} {pos spos : Pos} {Q : Flow → Shared → Prop} (_F₀ : Fr h₀ L s.heap m) (hLe : env.locals = L)
    (hsw : swapsWith (.ListComp elt [⟨.Tuple [.Name a pa, .Name b pb] kk tp, iter, [c], 0⟩] scope pos) (some (.Name y py)) spos.line env = pure true)
    (hclos : closureFor scope env = pure cl) (hcell : ∀ z ∈ scope.names, z.2 ≠ .cell) (hkind : scope.kind = .function)
    (hnames : ∀ z ∈ scope.names, z.2 = .local → scope.names.lookup z.1 = some .local) (hxa : scope.names.lookup a = some .local) (hxb : scope.names.lookup b = some .local) (hab : ¬ a = b)
    (hy : env.kindOf y = some .local) (hp : (env.scope.kind == .class || (env.scope.kind == .module && env.locals != env.globals)) = false)
    (h : wpAny (model prog w) A (eval iter env) (EcSrc prog w A h₀ L m env c elt a b scope cl (fun s₂ => FinY h₀ L m s₂ y Q)) E s)
    (hs : ∀ x, foldedSetIterable iter env x = pure x := by intro _; rfl) :
    wpAny (model prog w) A (exec (.Assign [.Name y py] (.ListComp elt [⟨.Tuple [.Name a pa, .Name b pb] kk tp, iter, [c], 0⟩] scope pos) spos) env) Q E s :=
  eps_allz (z := Hec_Assign.z₀) (P := fun z : Hec_Assign.Dat => Hec_Assign.Pre z.1 z.2.1 z.2.2.1 z.2.2.2.1 z.2.2.2.2.1 z.2.2.2.2.2.1 z.2.2.2.2.2.2.1 z.2.2.2.2.2.2.2.1 z.2.2.2.2.2.2.2.2.1 z.2.2.2.2.2.2.2.2.2.1 z.2.2.2.2.2.2.2.2.2.2.1 z.2.2.2.2.2.2.2.2.2.2.2.1 z.2.2.2.2.2.2.2.2.2.2.2.2.1 z.2.2.2.2.2.2.2.2.2.2.2.2.2.1 z.2.2.2.2.2.2.2.2.2.2.2.2.2.2.1 z.2.2.2.2.2.2.2.2.2.2.2.2.2.2.2.1 z.2.2.2.2.2.2.2.2.2.2.2.2.2.2.2.2.1 z.2.2.2.2.2.2.2.2.2.2.2.2.2.2.2.2.2.1 z.2.2.2.2.2.2.2.2.2.2.2.2.2.2.2.2.2.2.1 z.2.2.2.2.2.2.2.2.2.2.2.2.2.2.2.2.2.2.2.1 z.2.2.2.2.2.2.2.2.2.2.2.2.2.2.2.2.2.2.2.2.1 z.2.2.2.2.2.2.2.2.2.2.2.2.2.2.2.2.2.2.2.2.2.1 z.2.2.2.2.2.2.2.2.2.2.2.2.2.2.2.2.2.2.2.2.2.2.1 z.2.2.2.2.2.2.2.2.2.2.2.2.2.2.2.2.2.2.2.2.2.2.2) (by delta Hec_Assign.z₀; exact rfl) (by with_unfolding_all exact Hec_Assign.main) (prog, w, A, E, s, h₀, m, env, elt, iter, c, a, b, y, pa, pb, tp, py, kk, scope, cl, pos, spos, Q) L _F₀ hLe hsw hclos hcell hkind hnames hxa hxb hab hy hp h hs
end V
end
end
section
example : True := by
  k_with_none
  w_top off
  (k_with "ite" => (k_closed; (first | (refine ite_pos (by with_reducible assumption) ?_) | (refine ite_neg (by with_reducible assumption) ?_) | (refine ite_isFalse (by with_reducible assumption) ?_) | k_dflt (refine ite_pos (by decide) ?_) | k_dflt (refine ite_neg (by decide) ?_) | (refine ite_pos (by k_dec) ?_) | (refine ite_neg (by k_dec) ?_))))
  (k_with "k_room" => (first | exact room_of (by assumption) 0 rfl | exact room_of (by assumption) 1 rfl | exact room_of (by assumption) 2 rfl | exact room_of (by assumption) 3 rfl | exact room_of (by assumption) 4 rfl | exact room_of (by assumption) 5 rfl | exact room_of (by assumption) 6 rfl))
  (k_with "my enter" => ((first
    | (refine' code_def ?k1 ?k2 ?k3 ?k4 ?k5 ?kA ?kF ?kK ?k6 ?k7 ?k8 ?k9 ?kB ?_ ?c2 ?c3 ?c4 ?c5; (case kA => exact rfl); (case kF => exact rfl); (case kK => first | exact rfl | assumption); (case k1 => k_asm); (case k2 => k_asm); (case k3 => k_asm); (case k4 => k_asm); (case k5 => k_asm); (case k6 => k_is); (case k7 => k_is); (case k8 => k_room); (case k9 => first | exact BindsTo.of_eq rfl | exact binds_K (by k_in) rfl (by k_is) rfl rfl rfl | fail "k_enter: no rule for these arguments"); (case c5 => decide); (case kB => exact locs rfl); (case c2 => exact rfl); (case c3 => exact rfl); (case c4 => exact rfl); k_whole; intro g' L' h' FG' F' N' B' X' T'; (try dsimp only); (try k_lift B'); (try k_fold))
    | (refine' code_defC ?k1 ?k2 ?k3 ?k4 ?k5 ?kA ?kF ?kK ?k6 ?k7 ?k8 ?k9 ?kB ?kD ?_ ?c2 ?c3 ?c4; (case kA => exact rfl); (case kF => exact rfl); (case kK => first | exact rfl | assumption); (case k1 => k_asm); (case k2 => k_asm); (case k3 => k_asm); (case k4 => k_asm); (case k5 => k_asm); (case k6 => k_is); (case k7 => k_is); (case k8 => k_room); (case k9 => first | exact BindsTo.of_eq rfl | exact binds_K (by k_in) rfl (by k_is) rfl rfl rfl | fail "k_enter: no rule for these arguments"); (case kB => exact rfl); (case kD => decide +kernel); (case c2 => exact rfl); (case c3 => exact rfl); (case c4 => exact rfl); k_whole; intro g' L' h' tk' cells' FG' F' N' Y' B' X' T' l1; (try k_lt l1); k_cells Y'; (try simp only [List.cons_append, List.nil_append] at N'); (try dsimp only); (try k_lift B'); (try k_fold)))))
  (k_with "call builtin:len" => (((with_reducible show wpAny _ _ (call (Value.builtin _) [Value.str _ _]) _ _ _); refine len_str (by omega) ?_)))
  (k_with "SearchPost" => (((with_reducible show SearchPost _ _ _ _ _ _ _ _ _ (Flow.ret _) _); dsimp only [SearchPost])))
  (k_with "execs cons" => ((k_here; (with_reducible show wpAny _ _ _ _ _ (Shared.mk _ _ _ (_ + _) _)); refine gentoks 1 (by first | omega | (dsimp only; omega)) ?_; intro _ _)))
  (k_with "execs nil" => ((k_here; (with_reducible show wpAny _ _ _ _ _ (Shared.mk _ _ _ (_ + _) _)); refine gentoks 1 (by first | omega | (dsimp only; omega)) ?_; intro _ _)))
  (k_with "my sub" => (first | exact fun _ h => h | exact fun _ h => List.mem_cons_of_mem _ h | exact fun _ h => List.mem_cons_of_mem _ (List.mem_cons_of_mem _ h) | exact fun _ h => List.mem_cons_of_mem _ (List.mem_cons_of_mem _ (List.mem_cons_of_mem _ h))))
  (k_with "k_all" => (first | assumption | exact off_of (by assumption) (by omega)))
  (k_with "my le" => (first | exact le_of 0 rfl (by assumption) | exact le_of 1 rfl (by assumption) | exact le_of 2 rfl (by assumption) | exact le_of 3 rfl (by assumption) | exact le_of 6 rfl (by assumption) | exact le_of 4 rfl (by assumption) | exact le_of 5 rfl (by assumption)))
  (k_with "exec Assign cons ListComp" => ((k_here; (rename Fr _ _ _ _ => lF'); k_dflt (refine ec_Assign lF' (by rfl) (by with_unfolding_all rfl) (by rfl) (by decide) (by rfl) (by decide) (by rfl) (by rfl) (by first | decide | decide +kernel) (by rfl) (by rfl) ?_ (by intro _; with_unfolding_all rfl)))))
  trivial
noncomputable abbrev bitOf (x : Int) (k : Nat) : Bool := decide ((x.fdiv (2 ^ k)).fmod 2 = 1)
noncomputable def selF (x : Int) (off : Nat) : Nat → List Str → List Str
  | _, [] => []
  | i, y :: r => if bitOf x (i + off) = true then y :: selF x off (i + 1) r else selF x off (i + 1) r
theorem ec_ind {prog : Program} {w : World} {A : Around} {s : Shared} {h₀ : Heap} {L : Addr} {m : Str → Option Value} {env : Env} {c elt : PySem.Expr} {a b : Str} {scope : Scope} {cl : List (Str × Addr)} {ax : Addr} {lo : Obj} {Fin : List Value → List (Addr × Obj) → Prop} {x : Int} {off : Nat} {news : List (Addr × Obj)} {vs : List Value} {names : List Str}
    (hv : StrsAre vs names) (fin : ∀ ys, StrsAre ys (selF x off 0 names) → Fin ys news)
    (turn : ∀ (i : Nat) (y : Str) (ty : Tok) (r : List Value) (ys : List Value) (t : Tok) I oI it oi C oC D m₂ h tk (E' : Value → Shared → Prop), i < names.length → LCg.NsObj oC m₂ → m₂ a = some (.int (i : Int) t) → m₂ b = some (.str y ty) → Fr h₀ L h m → News h₀ L h ((I, oI) :: (it, oi) :: (C, oC) :: (D, LCg.lst ys) :: news) → Off4 I it C D news → Ne4 I it C D →
      (bitOf x (i + off) = true → EcRest prog w A h₀ L m env c elt a b scope cl s ax lo Fin r (i + 1) (ys ++ [.str y ty]) news) → (bitOf x (i + off) = false → EcRest prog w A h₀ L m env c elt a b scope cl s ax lo Fin r (i + 1) ys news) →
      wpAny (model prog w) A (isTrue c (compEnvC scope cl C env) (eval c (compEnvC scope cl C env))) (fun okb s₃ => if okb = true then
        wpAny (model prog w) A (eval elt (compEnvC scope cl C env)) (EcEnd h₀ L m { s with heap := h, toks := tk } I oI it oi C oC D (LCg.lst ys) ax lo (fun y news' => EcRest prog w A h₀ L m env c elt a b scope cl s ax lo Fin r (i + 1) (ys ++ [y]) news')) E' s₃
        else EcEnd h₀ L m { s with heap := h, toks := tk } I oI it oi C oC D (LCg.lst ys) ax lo (fun _ news' => EcRest prog w A h₀ L m env c elt a b scope cl s ax lo Fin r (i + 1) ys news') .none s₃) E' { s with heap := h, toks := tk }) :
    EcRest prog w A h₀ L m env c elt a b scope cl s ax lo Fin vs 0 [] news := by
  have key : ∀ (r : List Value) (rs : List Str), StrsAre r rs → ∀ (i : Nat) (ys : List Value) (ms : List Str), i + r.length = names.length → StrsAre ys ms → ms ++ selF x off i rs = selF x off 0 names → EcRest prog w A h₀ L m env c elt a b scope cl s ax lo Fin r i ys news := by
    intro r rs hr
    induction hr with
    | nil =>
      intro i ys ms _ hy e
      exact fin ys (by rw [← e]; simpa [selF] using hy)
    | @cons y ty r rs hr ih =>
      intro i ys ms hl hy e
      simp only [List.length_cons] at hl
      intro t I oI it oi C oC D m₂ h tk E' hC ha hb F N o n
      refine turn i y ty r ys t I oI it oi C oC D m₂ h tk E' (by omega) hC ha hb F N o n (fun hb => ih (i + 1) _ (ms ++ [y]) (by omega) (kct_snoc hy) ?_) (fun hb => ih (i + 1) _ ms (by omega) hy ?_)
      · rw [← e, selF, if_pos hb, List.append_assoc]; rfl
      · rw [← e, selF, if_neg (by rw [hb]; exact Bool.false_ne_true)]
  exact key vs names hv 0 [] [] (by rw [hv.length]; omega) .nil rfl
noncomputable def modsF (x : Int) : List Str := selF x 0 0 [Str.ofString "cmp", Str.ofString "a[b]", Str.ofString "x*"]
noncomputable def fldsF (x : Int) : List Str := selF x 3 0 [Str.ofString "/usr/./lib/", Str.ofString "/t[mp]"]
noncomputable abbrev tup2 (a b : Addr) : Obj := { cls := .type "tuple", data := .seq #[.ref a, .ref b] }
theorem sub6 {α : Type} {a b c x y z : α} {r : List α} : ∀ p ∈ a :: b :: c :: r, p ∈ a :: b :: x :: c :: y :: z :: r := fun p hp => by
  rcases List.mem_cons.mp hp with rfl | hp
  · exact .head _
  rcases List.mem_cons.mp hp with rfl | hp
  · exact .tail _ (.head _)
  rcases List.mem_cons.mp hp with rfl | hp
  · exact .tail _ (.tail _ (.tail _ (.head _)))
  · exact .tail _ (.tail _ (.tail _ (.tail _ (.tail _ (.tail _ hp)))))
namespace Hknown_con
noncomputable def Pre (w : World) (news : List (Addr × Obj)) (x : Int) (t : Tok) (cd : CD) : Prop :=
  cd.Ok 480 w 190 [.int x t] news (fun v news' => ∃ tp am af vs us n1 n2, v = .ref tp ∧ news' = (tp, tup2 am af) :: (af, lst us n2) :: (am, lst vs n1) :: news ∧ StrsAre vs (modsF x) ∧ StrsAre us (fldsF x))
noncomputable abbrev Dat : Type := World × (List (Addr × Obj)) × Int × Tok × CD
noncomputable def d₀ : Dat := (wd, [], 0, (0 : Nat), CD.d)
@[irreducible] noncomputable def z₀ : Dat := eps d₀ fun z => ¬ Pre z.1 z.2.1 z.2.2.1 z.2.2.2.1 z.2.2.2.2
@[irreducible] noncomputable def w : World := z₀.1
@[irreducible] noncomputable def news : List (Addr × Obj) := z₀.2.1
@[irreducible] noncomputable def x : Int := z₀.2.2.1
@[irreducible] noncomputable def t : Tok := z₀.2.2.2.1
@[irreducible] noncomputable def cd : CD := z₀.2.2.2.2
@[irreducible] noncomputable def ent : (B : Heap → Addr → Heap → Prop) ×' ((∀ g L h, B g L h) → Pre w news x t cd) := by
  apply PSigma.mk
  intro hB
  intro hdp hun B F X N T hQ
  have hk : (⟨.function, cd.cnm, cd.cg, cd.cc, cd.cm⟩ : Scope).kind = .function := rfl
  refine wpAny_call ?_
  k_dflt (refine' code_defC ?k1 ?k2 ?k3 ?k4 ?k5 ?kA ?kF ?kK ?k6 ?k7 ?k8 ?k9 ?kB ?kD ?_ ?c2 ?c3 ?c4; (case kA => exact rfl); (case kF => exact rfl); (case kK => first | exact rfl | assumption); (case k1 => k_asm); (case k2 => k_asm); (case k3 => k_asm); (case k4 => k_asm); (case k5 => k_asm); (case k6 => k_is); (case k7 => k_is); (case k8 => k_room); (case k9 => first | exact BindsTo.of_eq rfl | exact binds_K (by k_in) rfl (by k_is) rfl rfl rfl | fail "k_enter: no rule for these arguments"); (case kB => exact rfl); (case kD => decide +kernel); (case c2 => exact rfl); (case c3 => exact rfl); (case c4 => exact rfl); k_whole; intro g1 L1 hp1 tkc cells1 FG1 F1 N1 Y1 B1 X1 T1 l1)
  clear hk
  revert hdp hun B F X N T hQ tkc cells1 FG1 F1 N1 Y1 B1 X1 T1 l1
  exact hB g1 L1 hp1
noncomputable abbrev Dat₂ : Type := Heap × Addr × Heap
@[irreducible] noncomputable def z₂ : Dat₂ := eps ({}, (0 : Nat), {}) fun z => ¬ ent.1 z.1 z.2.1 z.2.2
@[irreducible] noncomputable def g1 : Heap := z₂.1
@[irreducible] noncomputable def L1 : Addr := z₂.2.1
@[irreducible] noncomputable def hp1 : Heap := z₂.2.2
theorem body : ent.1 g1 L1 hp1 := by
  delta ent
  intro hdp hun B F X N T hQ tkc cells1 FG1 F1 N1 Y1 B1 X1 T1 l1
  have hk : (⟨.function, cd.cnm, cd.cg, cd.cc, cd.cm⟩ : Scope).kind = .function := rfl
  obtain ⟨oA, hE, dA⟩ := CellsAre.one Y1
  subst hE
  clear Y1
  simp only [List.cons_append, List.nil_append] at N1
  have dA' : oA.data = .cell (some (.int x t)) := dA
  clear dA
  k_steps
  all_goals (try k_data)
  (rename Fr g1 L1 _ _ => lF'); (rename News g1 L1 _ _ => lN')
  with_unfolding_all refine ec_src (vs := [_, _, _]) rfl lF' lN' (.head _) rfl rfl (by size_fits) ?_
  intro gg1
  clear lF' lN'
  refine ec_ind (x := x) (off := 0) (names := [Str.ofString "cmp", Str.ofString "a[b]", Str.ofString "x*"]) (.cons _ _ (.cons _ _ (.cons _ _ .nil))) ?fin1 ?turn1
  case turn1 =>
    intro i y ty r ys t3 I oI it oi C oC D m₂ h tk E' hi hC ha hb F3 N3 o3 n3 ih1 ih2
    have hi3 : i < 3 := hi
    k_steps
    · (rename Fr g1 L1 _ _ => lF'); (rename News g1 L1 _ _ => lN')
      exact EcEnd.mk lF' lN' o3 (.head _) (ih1 (decide_eq_true (by assumption)))
    · (rename Fr g1 L1 _ _ => lF'); (rename News g1 L1 _ _ => lN')
      exact EcEnd.mk lF' lN' o3 (.head _) (ih2 (decide_eq_false (by assumption)))
  case fin1 =>
    intro ys hys D2 h2 tk2 F2 N2 o2
    k_steps
    (rename Fr g1 L1 _ _ => lF'); (rename News g1 L1 _ _ => lN')
    with_unfolding_all refine ec_src (vs := [_, _]) rfl lF' lN' (.head _) rfl rfl (by size_fits) ?_
    intro gg2
    clear lF' lN'
    refine ec_ind (x := x) (off := 3) (names := [Str.ofString "/usr/./lib/", Str.ofString "/t[mp]"]) (.cons _ _ (.cons _ _ .nil)) ?fin2 ?turn2
    case turn2 =>
      intro i y ty r ys t3 I oI it oi C oC D m₂ h tk E' hi hC ha hb F3 N3 o3 n3 ih1 ih2
      have hi3 : i < 2 := hi
      k_steps
      · (rename Fr g1 L1 _ _ => lF'); (rename News g1 L1 _ _ => lN')
        exact EcEnd.mk lF' lN' o3 (.head _) (ih1 (decide_eq_true (by assumption)))
      · (rename Fr g1 L1 _ _ => lF'); (rename News g1 L1 _ _ => lN')
        exact EcEnd.mk lF' lN' o3 (.head _) (ih2 (decide_eq_false (by assumption)))
    case fin2 =>
      intro us hus D3 h3 tk3 F3 N3 o3
      k_steps
      (rename Fr cd.h₀ cd.L _ _ => kF'); (rename News cd.h₀ cd.L _ _ => kN')
      exact hQ _ _ _ _ ⟨_, _, _, _, _, _, _, rfl, rfl, hys, hus⟩ kF' (cb_drop kN' sub6)
theorem main : Pre w news x t cd := PSigma.snd ent (eps_all3 (P := ent.1) (z := z₂) (by delta z₂; exact rfl) (by delta g1; exact rfl) (by delta L1; exact rfl) (by delta hp1; exact rfl) body)
end Hknown_con
theorem known_con (w : World) (news : List (Addr × Obj)) (x : Int) (t : Tok) :
    Con 480 w 190 [.int x t] news (fun v news' => ∃ tp am af vs us n1 n2, v = .ref tp ∧ news' = (tp, tup2 am af) :: (af, lst us n2) :: (am, lst vs n1) :: news ∧ StrsAre vs (modsF x) ∧ StrsAre us (fldsF x)) :=
  con_of fun c => eps_allz (z := Hknown_con.z₀) (P := fun z : Hknown_con.Dat => Hknown_con.Pre z.1 z.2.1 z.2.2.1 z.2.2.2.1 z.2.2.2.2) (by delta Hknown_con.z₀; exact rfl) (by with_unfolding_all exact Hknown_con.main) (w, news, x, t, c) 
end
section
example : True := by
  k_with_none
  w_top off
  (k_with "ite" => (k_closed; (first | (refine ite_pos (by with_reducible assumption) ?_) | (refine ite_neg (by with_reducible assumption) ?_) | (refine ite_isFalse (by with_reducible assumption) ?_) | k_dflt (refine ite_pos (by decide) ?_) | k_dflt (refine ite_neg (by decide) ?_) | (refine ite_pos (by k_dec) ?_) | (refine ite_neg (by k_dec) ?_))))
  (k_with "k_room" => (first | exact room_of (by assumption) 0 rfl | exact room_of (by assumption) 1 rfl | exact room_of (by assumption) 2 rfl | exact room_of (by assumption) 3 rfl | exact room_of (by assumption) 4 rfl | exact room_of (by assumption) 5 rfl | exact room_of (by assumption) 6 rfl))
  (k_with "my enter" => ((first
    | (refine' code_def ?k1 ?k2 ?k3 ?k4 ?k5 ?kA ?kF ?kK ?k6 ?k7 ?k8 ?k9 ?kB ?_ ?c2 ?c3 ?c4 ?c5; (case kA => exact rfl); (case kF => exact rfl); (case kK => first | exact rfl | assumption); (case k1 => k_asm); (case k2 => k_asm); (case k3 => k_asm); (case k4 => k_asm); (case k5 => k_asm); (case k6 => k_is); (case k7 => k_is); (case k8 => k_room); (case k9 => first | exact BindsTo.of_eq rfl | exact binds_K (by k_in) rfl (by k_is) rfl rfl rfl | fail "k_enter: no rule for these arguments"); (case c5 => decide); (case kB => exact locs rfl); (case c2 => exact rfl); (case c3 => exact rfl); (case c4 => exact rfl); k_whole; intro g' L' h' FG' F' N' B' X' T'; (try dsimp only); (try k_lift B'); (try k_fold))
    | (refine' code_defC ?k1 ?k2 ?k3 ?k4 ?k5 ?kA ?kF ?kK ?k6 ?k7 ?k8 ?k9 ?kB ?kD ?_ ?c2 ?c3 ?c4; (case kA => exact rfl); (case kF => exact rfl); (case kK => first | exact rfl | assumption); (case k1 => k_asm); (case k2 => k_asm); (case k3 => k_asm); (case k4 => k_asm); (case k5 => k_asm); (case k6 => k_is); (case k7 => k_is); (case k8 => k_room); (case k9 => first | exact BindsTo.of_eq rfl | exact binds_K (by k_in) rfl (by k_is) rfl rfl rfl | fail "k_enter: no rule for these arguments"); (case kB => exact rfl); (case kD => decide +kernel); (case c2 => exact rfl); (case c3 => exact rfl); (case c4 => exact rfl); k_whole; intro g' L' h' tk' cells' FG' F' N' Y' B' X' T' l1; (try k_lt l1); k_cells Y'; (try simp only [List.cons_append, List.nil_append] at N'); (try dsimp only); (try k_lift B'); (try k_fold)))))
  (k_with "call builtin:len" => (((with_reducible show wpAny _ _ (call (Value.builtin _) [Value.str _ _]) _ _ _); refine len_str (by omega) ?_)))
  (k_with "exec For Name Name cons nil" => ((k_here; refine for_at ?_)))
  (k_with "SearchPost" => (((with_reducible show SearchPost _ _ _ _ _ _ _ _ _ (Flow.ret _) _); dsimp only [SearchPost])))
  (k_with "execs cons" => ((k_here; (with_reducible show wpAny _ _ _ _ _ (Shared.mk _ _ _ (_ + _) _)); refine gentoks 1 (by first | omega | (dsimp only; omega)) ?_; intro _ _)))
  (k_with "execs nil" => ((k_here; (with_reducible show wpAny _ _ _ _ _ (Shared.mk _ _ _ (_ + _) _)); refine gentoks 1 (by first | omega | (dsimp only; omega)) ?_; intro _ _)))
  (k_with "my sub" => (first | exact fun _ h => h | exact fun _ h => List.mem_cons_of_mem _ h | exact fun _ h => List.mem_cons_of_mem _ (List.mem_cons_of_mem _ h) | exact fun _ h => List.mem_cons_of_mem _ (List.mem_cons_of_mem _ (List.mem_cons_of_mem _ h))))
  (k_with "k_all" => (first | assumption | exact off_of (by assumption) (by omega)))
  (k_with "my le" => (first | exact le_of 0 rfl (by assumption) | exact le_of 1 rfl (by assumption) | exact le_of 2 rfl (by assumption) | exact le_of 3 rfl (by assumption) | exact le_of 6 rfl (by assumption) | exact le_of 4 rfl (by assumption) | exact le_of 5 rfl (by assumption)))
  (k_with "exec For Name BinOp cons nil" => ((k_here; refine for_at ?_ (by intro _; with_unfolding_all rfl))))
  trivial
/-- a contract with a word about the base heap -/
noncomputable def ConH (b : Nat) (w : World) (f : Addr) (args : List Value) (news : List (Addr × Obj)) (Pre : Heap → Prop) (Post : Value → List (Addr × Obj) → Prop) : Prop :=
  ∀ (dp un : Nat), dp ≤ b → un ≤ b → ∀ (gd : Option (List Code)) (cn : Str) (cs : Scope) (a : Addr) (ccd : Value) (cl : List (Str × Addr)) (outer : List Env) (A₀ : Around) (base h₀ : Heap) (L : Addr) (m : Str → Option Value) (s : Shared) (Q E : Value → Shared → Prop)
  (mean : ExcName → Option Value) (mg mb : Str → Option Value),
  Below A₀ base outer h₀ → Fr h₀ L s.heap m → (hd.heap_1 w.params).In h₀ → News h₀ L s.heap news → Top topProg TL mean mg mb h₀ → cs.kind = .function → Pre h₀ →
  (∀ v news' h' tk', Post v news' → Fr h₀ L h' m → News h₀ L h' news' → Q v { s with heap := h', toks := tk' }) →
  wpAny (model P w) (ktrTop dp un gd cn cs L a ccd cl outer) (call (.ref f) args) Q E s
noncomputable def CD.OkH (c : CD) (b : Nat) (w : World) (f : Addr) (args : List Value) (news : List (Addr × Obj)) (Pre : Heap → Prop) (Post : Value → List (Addr × Obj) → Prop) : Prop :=
  c.dp ≤ b → c.un ≤ b → Below c.A₀ c.base c.outer c.h₀ → Fr c.h₀ c.L c.s.heap c.m → (hd.heap_1 w.params).In c.h₀ → News c.h₀ c.L c.s.heap news → Top topProg TL c.mean c.mg c.mb c.h₀ → Pre c.h₀ →
  (∀ v news' h' tk', Post v news' → Fr c.h₀ c.L h' c.m → News c.h₀ c.L h' news' → c.Q v { c.s with heap := h', toks := tk' }) →
  wpAny (model P w) (ktrTop c.dp c.un c.gd c.cn ⟨.function, c.cnm, c.cg, c.cc, c.cm⟩ c.L c.a c.ccd c.cl c.outer) (call (.ref f) args) c.Q c.E c.s
theorem conH_of {b : Nat} {w : World} {f : Addr} {args : List Value} {news : List (Addr × Obj)} {Pre : Heap → Prop} {Post : Value → List (Addr × Obj) → Prop} (h : ∀ c : CD, c.OkH b w f args news Pre Post) : ConH b w f args news Pre Post := by
  intro dp un hdp hun gd cn cs a ccd cl outer A₀ base h₀ L m s Q E mean mg mb B F X N T hk hpre hQ
  obtain ⟨ck, cnm, cg, cc, cm⟩ := cs
  dsimp only at hk
  subst hk
  exact h ⟨dp, un, gd, cn, cnm, cg, cc, cm, a, ccd, cl, outer, A₀, base, h₀, L, m, s, Q, E, mean, mg, mb⟩ hdp hun B F X N T hpre hQ
theorem sub36 {α : Type} {a b c d e f : α} {r : List α} : ∀ p ∈ d :: a :: e :: f :: r, p ∈ a :: b :: c :: d :: e :: f :: r := fun p hp => by
  simp only [List.mem_cons] at hp ⊢
  rcases hp with hp | hp | hp | hp | hp <;> simp [hp]
noncomputable abbrev tup3 (a b c : Value) : Obj := { cls := .type "tuple", data := .seq #[a, b, c] }
noncomputable def modL : List Str := [Str.ofString "cmp", Str.ofString "cmpcache", Str.ofString "cmp.x", Str.ofString "a[b]", Str.ofString "ab", Str.ofString "a[b].c", Str.ofString "xyz", Str.ofString "<string>"]
noncomputable def namL : List Str := [Str.ofString "/usr/lib/a.py", Str.ofString "/usr/lib.py", Str.ofString "/usr/library/c.py", Str.ofString "/t[mp]/d", Str.ofString "/tm/d", Str.ofString "/usr/lib"]
noncomputable def modAt (x : Int) : Str := modL.getD ((x.fdiv 8).fmod 8).toNat Str.empty
noncomputable def namAt (x : Int) : Str := namL.getD ((x.fdiv 64).fmod 6).toNat Str.empty
noncomputable def modeAt (x : Int) : Int := ([8, 8, 8, 4, 12, 10, 0, 9] : List Int).getD (x.fmod 8).toNat 0 * 4096 + (x.fdiv 8).fmod 4096
noncomputable abbrev clM (ml nl cl : Addr) (u : Str → Option Value) : Str → Option Value := fun z => if z = Str.ofString "modules" then some (.ref ml) else if z = Str.ofString "names" then some (.ref nl) else if z = Str.ofString "calls" then some (.ref cl) else u z
inductive TupsIn (nw : List (Addr × Obj)) : List Value → List Int → Prop
  | nil : TupsIn nw [] []
  | cons (T : Addr) (x : Int) (t1 t2 t3 : Tok) (vs : List Value) (xs : List Int) : (T, tup3 (.str (modAt x) t1) (.str (namAt x) t2) (.int (modeAt x) t3)) ∈ nw → TupsIn nw vs xs → TupsIn nw (.ref T :: vs) (x :: xs)
theorem TupsIn.more {nw nw' : List (Addr × Obj)} (h : ∀ p ∈ nw, p ∈ nw') : ∀ {vs : List Value} {xs : List Int}, TupsIn nw vs xs → TupsIn nw' vs xs
  | _, _, .nil => .nil
  | _, _, .cons T x t1 t2 t3 vs xs m r => .cons T x t1 t2 t3 vs xs (h _ m) (r.more h)
theorem TupsIn.snoc {nw : List (Addr × Obj)} {T : Addr} {x : Int} {t1 t2 t3 : Tok} (m : (T, tup3 (.str (modAt x) t1) (.str (namAt x) t2) (.int (modeAt x) t3)) ∈ nw) : ∀ {vs : List Value} {xs : List Int}, TupsIn nw vs xs → TupsIn nw (vs ++ [.ref T]) (xs ++ [x])
  | _, _, .nil => .cons _ _ _ _ _ _ _ m .nil
  | _, _, .cons T x t1 t2 t3 vs xs m' r => .cons T x t1 t2 t3 _ _ m' (r.snoc m)
theorem clM_of {ml nl cl : Addr} {m : Str → Option Value} (h1 : m (Str.ofString "modules") = some (.ref ml)) (h2 : m (Str.ofString "names") = some (.ref nl)) (h3 : m (Str.ofString "calls") = some (.ref cl)) : m = clM ml nl cl m := by
  funext z
  unfold clM
  by_cases e : z = Str.ofString "modules"
  · rw [if_pos e, e]; exact h1
  rw [if_neg e]
  by_cases e : z = Str.ofString "names"
  · rw [if_pos e, e]; exact h2
  rw [if_neg e]
  by_cases e : z = Str.ofString "calls"
  · rw [if_pos e, e]; exact h3
  rw [if_neg e]
noncomputable def CJ (xs : List Int) (ml nl cl D : Addr) (oD oN oM : Obj) (r : List Value) (m : Str → Option Value) (nw : List (Addr × Obj)) : Prop :=
  ∃ tv n tps u dn, m = clM ml nl cl u ∧ nw = (cl, W.listOf (List.toArray tv) n) :: (D, oD) :: (nl, oN) :: (ml, oM) :: tps ∧ TupsIn tps tv dn ∧ (∀ p ∈ tps, p.1 ≠ cl) ∧ ∃ rest, IntsAre r rest ∧ dn ++ rest = xs
theorem sub58 {α : Type} {T l i c d n m : α} {r : List α} : ∀ p ∈ i :: c :: d :: n :: m :: T :: r, p ∈ T :: l :: i :: c :: d :: n :: m :: r := fun p hp => by
  simp only [List.mem_cons] at hp ⊢
  rcases hp with hp | hp | hp | hp | hp | hp | hp <;> simp [hp]
theorem TupsIn.len {nw : List (Addr × Obj)} : ∀ {vs : List Value} {xs : List Int}, TupsIn nw vs xs → vs.length = xs.length
  | _, _, .nil => rfl
  | _, _, .cons _ _ _ _ _ _ _ _ r => by simp [r.len]
noncomputable def callsOf (ns : List Int) : List Int := List.take (min 7 ns.length - 1) (List.drop 1 ns) ++ [136, 272, 224, 288, 116, 112, 360]
theorem isl_of {g h : Heap} {L a : Addr} {vs : List Value} {n : Nat} {news : List (Addr × Obj)} (N : News g L h news) (hm : (a, W.listOf vs.toArray n) ∈ news) : h.IsList a vs.toArray := ⟨_, (N _ hm).1, rfl, n, rfl⟩
example : True := by
  (k_with "subscriptTail Name BinOp ref int" => ((k_here; (with_reducible show wpAny _ _ (subscriptTail _ _ (Value.ref ml) (Value.int (Int.fmod _ 8) _)) _ _ _); (rename News _ _ _ _ => lN'); (refine item_strsA (isl_of lN' (by k_mem)) hmv (Int.fmod_nonneg_of_pos _ (by decide)) (Int.fmod_lt_of_pos _ (by decide)) (Int.lt_trans (Int.fmod_lt_of_pos _ (by decide)) (by decide)) ?_); intro t8)))
  (k_with "subscriptTail Name BinOp ref int" => ((k_here; (with_reducible show wpAny _ _ (subscriptTail _ _ (Value.ref nl) (Value.int (Int.fmod _ 6) _)) _ _ _); (rename News _ _ _ _ => lN'); (refine item_strsA (isl_of lN' (by k_mem)) hnv (Int.fmod_nonneg_of_pos _ (by decide)) (Int.fmod_lt_of_pos _ (by decide)) (Int.lt_trans (Int.fmod_lt_of_pos _ (by decide)) (by decide)) ?_); intro t8)))
  (k_with "subscriptTail" => ((k_here; (with_reducible show wpAny _ _ (subscriptTail _ _ (Value.ref _) (Value.int (Int.fmod _ 8) _)) _ _ _); (rename News _ _ _ _ => lN'); (with_unfolding_all refine item_anyK (isl_of lN' (.head _)) (ns := [8, 8, 8, 4, 12, 10, 0, 9]) (.cons _ _ (.cons _ _ (.cons _ _ (.cons _ _ (.cons _ _ (.cons _ _ (.cons _ _ (.cons _ _ .nil)))))))) (Int.fmod_nonneg_of_pos _ (by decide)) (Int.fmod_lt_of_pos _ (by decide)) (Int.lt_trans (Int.fmod_lt_of_pos _ (by decide)) (by decide)) ?_ (by with_unfolding_all rfl)); intro t8)))
  trivial
namespace Hcalls_con
noncomputable def Pre (w : World) (news : List (Addr × Obj)) (sl : Addr) (vs : List Value) (ns : List Int) (cd : CD) : Prop :=
  (IntsAre vs ns) → (ns.length ≤ 63) → cd.OkH 480 w 197 [.ref sl] news (fun h => h.IsList sl vs.toArray) (fun v news' => ∃ cl tv n tps, v = .ref cl ∧ news' = (cl, lst tv n) :: (tps ++ news) ∧ TupsIn tps tv (callsOf ns) ∧ tv.length ≤ 13)
noncomputable abbrev Dat : Type := World × (List (Addr × Obj)) × Addr × (List Value) × (List Int) × CD
noncomputable def d₀ : Dat := (wd, [], (0 : Nat), [], [], CD.d)
@[irreducible] noncomputable def z₀ : Dat := eps d₀ fun z => ¬ Pre z.1 z.2.1 z.2.2.1 z.2.2.2.1 z.2.2.2.2.1 z.2.2.2.2.2
@[irreducible] noncomputable def w : World := z₀.1
@[irreducible] noncomputable def news : List (Addr × Obj) := z₀.2.1
@[irreducible] noncomputable def sl : Addr := z₀.2.2.1
@[irreducible] noncomputable def vs : List Value := z₀.2.2.2.1
@[irreducible] noncomputable def ns : List Int := z₀.2.2.2.2.1
@[irreducible] noncomputable def cd : CD := z₀.2.2.2.2.2
@[irreducible] noncomputable def ent : (B : Heap → Addr → Heap → Prop) ×' ((∀ g L h, B g L h) → Pre w news sl vs ns cd) := by
  apply PSigma.mk
  intro hB
  intro hI hl hdp hun B F X N T hpre hQ
  have hk : (⟨.function, cd.cnm, cd.cg, cd.cc, cd.cm⟩ : Scope).kind = .function := rfl
  refine wpAny_call ?_
  k_dflt (refine' code_frz ?k1 ?k2 ?k3 ?k4 ?k5 ?kA ?kF ?kK ?k6 ?k7 ?k8 ?k9 ?kB ?_ ?c2 ?c3 ?c4 ?c5; (case kA => exact rfl); (case kF => exact rfl); (case kK => first | exact rfl | assumption); (case k1 => k_asm); (case k2 => k_asm); (case k3 => k_asm); (case k4 => k_asm); (case k5 => k_asm); (case k6 => k_is); (case k7 => k_is); (case k8 => k_room); (case k9 => first | exact BindsTo.of_eq rfl | exact binds_K (by k_in) rfl (by k_is) rfl rfl rfl | fail "k_enter: no rule for these arguments"); (case c5 => decide); (case kB => exact locs rfl); (case c2 => exact rfl); (case c3 => exact rfl); (case c4 => exact rfl); k_whole; intro g1 L1 hp1 FG1 F1 N1 B1 X1 T1 hn1; (try dsimp only))
  clear hk
  revert hI hl hdp hun B F X N T hpre hQ FG1 F1 N1 B1 X1 T1 hn1
  exact hB g1 L1 hp1
noncomputable abbrev Dat₂ : Type := Heap × Addr × Heap
@[irreducible] noncomputable def z₂ : Dat₂ := eps ({}, (0 : Nat), {}) fun z => ¬ ent.1 z.1 z.2.1 z.2.2
@[irreducible] noncomputable def g1 : Heap := z₂.1
@[irreducible] noncomputable def L1 : Addr := z₂.2.1
@[irreducible] noncomputable def hp1 : Heap := z₂.2.2
theorem body : ent.1 g1 L1 hp1 := by
  delta ent
  intro hI hl hdp hun B F X N T hpre hQ FG1 F1 N1 B1 X1 T1 hn1
  have hk : (⟨.function, cd.cnm, cd.cg, cd.cc, cd.cm⟩ : Scope).kind = .function := rfl
  have lifted : g1.IsList sl vs.toArray := hpre.at fun o q => FG1.keep _ _ q
  have hvl : vs.length = ns.length := hI.length
  k_steps
  all_goals (try k_data)
  (rename Fr g1 L1 _ _ => lF'); (rename News g1 L1 _ _ => lN'); (rename IntsAre _ (_ ++ _) => hW)
  rename_i ml _ _ _ _ _ nl _ lt1 _ _ _ cl _ lt2 _ _ _ Ds _ _ _ _ hL9 lt3 l7 _ lt4 D9 ws9 h9 lt9
  have hxl : (List.take (min 7 ns.length - 1) (List.drop 1 ns) ++ [136, 272, 224, 288, 116, 112, 360]).length ≤ 13 := by
    rw [List.length_append, List.length_take]; simp only [List.length_cons, List.length_nil]; omega
  have hWl := hW.length
  have hxs : (List.take (min 7 ns.length - 1) (List.drop 1 ns) ++ [136, 272, 224, 288, 116, 112, 360]) = callsOf ns := rfl
  rw [hxs] at hW hxl hWl
  clear hxs
  generalize callsOf ns = xs at hW hxl hWl hQ
  have ne1 : @Ne Nat cl D9 := Nat.ne_of_lt lt9.2.2.1
  have ne2 : @Ne Nat cl nl := Nat.ne_of_gt lt2.1
  have ne3 : @Ne Nat cl ml := Nat.ne_of_gt lt2.2
  have hled : ∃ mv nv, StrsAre mv modL ∧ StrsAre nv namL ∧ News g1 L1 h9 [(cl, W.listOf (List.toArray []) 0), (D9, W.listOf ws9.toArray 0), (nl, W.listOf (List.toArray nv) 0), (ml, W.listOf (List.toArray mv) 0)] := ⟨[_, _, _, _, _, _, _, _], [_, _, _, _, _, _], (.cons _ _ (.cons _ _ (.cons _ _ (.cons _ _ (.cons _ _ (.cons _ _ (.cons _ _ (.cons _ _ .nil)))))))), (.cons _ _ (.cons _ _ (.cons _ _ (.cons _ _ (.cons _ _ (.cons _ _ .nil)))))), cb_drop lN' sub36⟩
  obtain ⟨mv, nv, hmv, hnv, hled⟩ := hled
  dsimp only
  with_unfolding_all refine' forAt_list (D := fun d => d = cd.s.drawn) (lo := W.listOf ws9.toArray 0) (vs := ws9) (n := 0) (ax := D9) (J := CJ xs ml nl cl D9 (W.listOf ws9.toArray 0) (W.listOf (List.toArray nv) 0) (W.listOf (List.toArray mv) 0)) ?hD ?hh ?hE ?hx ?hp lF' hled ?hc ?hd ?hm ?h0 ?turn ?done
  case hD => rfl
  case hh => rfl
  case hE => passes_own
  case hx => rfl
  case hp => rfl
  case hc => rfl
  case hd => rfl
  case hm =>
    rintro r m nw ⟨tv, n, tps, u, dn, rfl, rfl, _⟩
    exact .tail _ (.head _)
  case h0 => exact ⟨[], 0, [], _, [], clM_of rfl rfl rfl, rfl, .nil, (fun _ h => by cases h), xs, hW, rfl⟩
  case turn =>
    clear lF' lN' hled
    rintro v r m nw it I h tk d ⟨tv, n, tps, u, dn, rfl, rfl, hT, hoffc, rest, hr, hdn⟩ htk rfl hoff hic F2 N2
    cases hr with
    | @cons a ta r rest hr' =>
    have F3 : Fr g1 L1 h (fun y => if y = Str.ofString "x" then some (.int a ta) else clM ml nl cl u y) := F2
    have htl : tv.length ≤ 13 := by rw [hT.len]; have := congrArg List.length hdn; rw [List.length_append, List.length_cons] at this; omega
    have n1 : @Ne Nat cl I := hoff _ (.head _)
    clear F2
    dsimp only
    k_steps
    (rename Fr g1 L1 _ _ => lF'); (rename News g1 L1 _ _ => lN')
    rename_i l8 _ l8a _ _ _ T8 _ l8b _ _ _
    have t1 : @Ne Nat T8 I := Nat.ne_of_gt l8b.2.1
    have t2 : @Ne Nat T8 cl := Nat.ne_of_gt l8b.2.2.1
    refine ⟨_, _, _, _, _, rfl, rfl, lF', cb_drop lN' sub58, fun p hp => ?_, tv ++ [.ref T8], _, (T8, _) :: tps, _, dn ++ [a], clM_of rfl rfl rfl, by rw [← List.push_toArray]; rfl, TupsIn.snoc (.head _) (hT.more fun _ h => .tail _ h), fun p hp => ?_, rest, hr', by rw [← hdn, List.append_assoc]; rfl⟩
    · rcases List.mem_cons.mp hp with rfl | hp
      · exact n1
      rcases List.mem_cons.mp hp with rfl | hp
      · exact hoff _ (.tail _ (.head _))
      rcases List.mem_cons.mp hp with rfl | hp
      · exact hoff _ (.tail _ (.tail _ (.head _)))
      rcases List.mem_cons.mp hp with rfl | hp
      · exact hoff _ (.tail _ (.tail _ (.tail _ (.head _))))
      rcases List.mem_cons.mp hp with rfl | hp
      · exact t1
      · exact hoff _ (.tail _ (.tail _ (.tail _ (.tail _ hp))))
    · rcases List.mem_cons.mp hp with rfl | hp
      · exact t2
      · exact hoffc p hp
  case done =>
    clear lF' lN' hled
    rintro m nw h tk d ⟨tv, n, tps, u, dn, rfl, rfl, hT, hoffc, rest, hr, hdn⟩ htk rfl F2 N2
    cases hr
    have F3 : Fr g1 L1 h (clM ml nl cl u) := F2
    clear F2
    dsimp only
    k_steps
    (rename Fr cd.h₀ cd.L _ _ => kF'); (rename News cd.h₀ cd.L _ _ => kN')
    intro hN
    rw [List.append_nil] at hdn
    subst hdn
    refine hQ _ ((cl, lst tv n) :: (tps ++ news)) _ _ ⟨cl, tv, n, tps, rfl, rfl, hT, by rw [hT.len]; exact hxl⟩ kF' fun q hq => ?_
    rcases List.mem_cons.mp hq with rfl | hq
    · exact kN' _ (.head _)
    rcases List.mem_append.mp hq with hq | hq
    · exact kN' q (.tail _ (.tail _ (.tail _ (.tail _ hq))))
    · exact hN q hq
theorem main : Pre w news sl vs ns cd := PSigma.snd ent (eps_all3 (P := ent.1) (z := z₂) (by delta z₂; exact rfl) (by delta g1; exact rfl) (by delta L1; exact rfl) (by delta hp1; exact rfl) body)
end Hcalls_con
theorem calls_con (w : World) (news : List (Addr × Obj)) (sl : Addr) (vs : List Value) (ns : List Int) (hI : IntsAre vs ns) (hl : ns.length ≤ 63) :
    ConH 480 w 197 [.ref sl] news (fun h => h.IsList sl vs.toArray) (fun v news' => ∃ cl tv n tps, v = .ref cl ∧ news' = (cl, lst tv n) :: (tps ++ news) ∧ TupsIn tps tv (callsOf ns) ∧ tv.length ≤ 13) :=
  conH_of fun c => eps_allz (z := Hcalls_con.z₀) (P := fun z : Hcalls_con.Dat => Hcalls_con.Pre z.1 z.2.1 z.2.2.1 z.2.2.2.1 z.2.2.2.2.1 z.2.2.2.2.2) (by delta Hcalls_con.z₀; exact rfl) (by with_unfolding_all exact Hcalls_con.main) (w, news, sl, vs, ns, c) hI hl
end
section
open PySem.W.X PyProof.Rows.LCg PyProof.Rows.LCt
section
variable {prog : Program} {w : World} {A : Around} {s : Shared} {h₀ : Heap} {L : Addr} {m : Str → Option Value} {env : Env} {ct elt : PySem.Expr} {x : Str} {scope : Scope} {cl : List (Str × Addr)} {S : List (Addr × Obj) → Prop} {P : Nat → Value → Prop} {Fin : List Value → List (Addr × Obj) → Prop}
theorem crt_ind (J : Nat → List Value → List (Addr × Obj) → Prop) (n : Nat) (fin : ∀ ys nw, J n ys nw → Fin ys nw)
    (turn : ∀ k i ys nw v I oI C oC D m₂ h tk (E' : Value → Shared → Prop), i + (k + 1) = n → J i ys nw → P i v → NsObj oC m₂ → m₂ x = some v → Fr h₀ L h m → News h₀ L h ((I, oI) :: (C, oC) :: (D, LCg.lst ys) :: nw) → Off3 I C D nw → ((@Ne Nat I C) ∧ (@Ne Nat I D) ∧ (@Ne Nat C D)) →
      (∀ ys' nw', J (i + 1) ys' nw' → CompRestT prog w A h₀ L m env ct elt x scope cl s S P Fin k (i + 1) ys' nw') →
      wpAny (model prog w) A (isTrue ct (compEnvC scope cl C env) (eval ct (compEnvC scope cl C env))) (fun ok s' => if ok = true then
        wpAny (model prog w) A (eval elt (compEnvC scope cl C env)) (CompEnd h₀ L m { s with heap := h, toks := tk } I oI C oC D (LCg.lst ys) S (fun y news' => CompRestT prog w A h₀ L m env ct elt x scope cl s S P Fin k (i + 1) (ys ++ [y]) news')) E' s'
        else CompEnd h₀ L m { s with heap := h, toks := tk } I oI C oC D (LCg.lst ys) S (fun _ news' => CompRestT prog w A h₀ L m env ct elt x scope cl s S P Fin k (i + 1) ys news') Value.none s') E' { s with heap := h, toks := tk })
    {nw : List (Addr × Obj)} (h0 : J 0 [] nw) : CompRestT prog w A h₀ L m env ct elt x scope cl s S P Fin n 0 [] nw := by
  have key : ∀ k i ys nw, i + k = n → J i ys nw → CompRestT prog w A h₀ L m env ct elt x scope cl s S P Fin k i ys nw := by
    intro k
    induction k with
    | zero => intro i ys nw e j; exact fin ys nw (by have : i = n := e; rw [← this]; exact j)
    | succ k ih =>
      intro i ys nw e j v I oI C oC D m₂ h tk E' hP hC hx F N off ne
      exact turn k i ys nw v I oI C oC D m₂ h tk E' e j hP hC hx F N off ne fun ys' nw' j' => ih (i + 1) ys' nw' (by omega) j'
  exact key n 0 [] nw (Nat.zero_add n) h0
theorem cr_ind (J : Nat → List Value → List (Addr × Obj) → Prop) (n : Nat) (fin : ∀ ys nw, J n ys nw → Fin ys nw)
    (turn : ∀ k i ys nw v I oI C oC D m₂ h tk (E' : Value → Shared → Prop), i + (k + 1) = n → J i ys nw → P i v → NsObj oC m₂ → m₂ x = some v → Fr h₀ L h m → News h₀ L h ((I, oI) :: (C, oC) :: (D, LCg.lst ys) :: nw) → Off3 I C D nw → ((@Ne Nat I C) ∧ (@Ne Nat I D) ∧ (@Ne Nat C D)) →
      (∀ ys' nw', J (i + 1) ys' nw' → CompRest prog w A h₀ L m env elt x scope cl s S P Fin k (i + 1) ys' nw') →
      wpAny (model prog w) A (eval elt (compEnvC scope cl C env)) (CompEnd h₀ L m { s with heap := h, toks := tk } I oI C oC D (LCg.lst ys) S (fun y news' => CompRest prog w A h₀ L m env elt x scope cl s S P Fin k (i + 1) (ys ++ [y]) news')) E' { s with heap := h, toks := tk })
    {nw : List (Addr × Obj)} (h0 : J 0 [] nw) : CompRest prog w A h₀ L m env elt x scope cl s S P Fin n 0 [] nw := by
  have key : ∀ k i ys nw, i + k = n → J i ys nw → CompRest prog w A h₀ L m env elt x scope cl s S P Fin k i ys nw := by
    intro k
    induction k with
    | zero => intro i ys nw e j; exact fin ys nw (by have : i = n := e; rw [← this]; exact j)
    | succ k ih =>
      intro i ys nw e j v I oI C oC D m₂ h tk E' hP hC hx F N off ne
      exact turn k i ys nw v I oI C oC D m₂ h tk E' e j hP hC hx F N off ne fun ys' nw' j' => ih (i + 1) ys' nw' (by omega) j'
  exact key n 0 [] nw (Nat.zero_add n) h0
end
end
section
example : True := by
  k_with_none
  w_top off
  (k_with "ite" => (k_closed; (first | (refine ite_pos (by with_reducible assumption) ?_) | (refine ite_neg (by with_reducible assumption) ?_) | (refine ite_isFalse (by with_reducible assumption) ?_) | k_dflt (refine ite_pos (by decide) ?_) | k_dflt (refine ite_neg (by decide) ?_) | (refine ite_pos (by k_dec) ?_) | (refine ite_neg (by k_dec) ?_))))
  (k_with "k_room" => (first | exact room_of (by assumption) 0 rfl | exact room_of (by assumption) 1 rfl | exact room_of (by assumption) 2 rfl | exact room_of (by assumption) 3 rfl | exact room_of (by assumption) 4 rfl | exact room_of (by assumption) 5 rfl | exact room_of (by assumption) 6 rfl))
  (k_with "my enter" => ((first
    | (refine' code_def ?k1 ?k2 ?k3 ?k4 ?k5 ?kA ?kF ?kK ?k6 ?k7 ?k8 ?k9 ?kB ?_ ?c2 ?c3 ?c4 ?c5; (case kA => exact rfl); (case kF => exact rfl); (case kK => first | exact rfl | assumption); (case k1 => k_asm); (case k2 => k_asm); (case k3 => k_asm); (case k4 => k_asm); (case k5 => k_asm); (case k6 => k_is); (case k7 => k_is); (case k8 => k_room); (case k9 => first | exact BindsTo.of_eq rfl | exact binds_K (by k_in) rfl (by k_is) rfl rfl rfl | fail "k_enter: no rule for these arguments"); (case c5 => decide); (case kB => exact locs rfl); (case c2 => exact rfl); (case c3 => exact rfl); (case c4 => exact rfl); k_whole; intro g' L' h' FG' F' N' B' X' T'; (try dsimp only); (try k_lift B'); (try k_fold))
    | (refine' code_defC ?k1 ?k2 ?k3 ?k4 ?k5 ?kA ?kF ?kK ?k6 ?k7 ?k8 ?k9 ?kB ?kD ?_ ?c2 ?c3 ?c4; (case kA => exact rfl); (case kF => exact rfl); (case kK => first | exact rfl | assumption); (case k1 => k_asm); (case k2 => k_asm); (case k3 => k_asm); (case k4 => k_asm); (case k5 => k_asm); (case k6 => k_is); (case k7 => k_is); (case k8 => k_room); (case k9 => first | exact BindsTo.of_eq rfl | exact binds_K (by k_in) rfl (by k_is) rfl rfl rfl | fail "k_enter: no rule for these arguments"); (case kB => exact rfl); (case kD => decide +kernel); (case c2 => exact rfl); (case c3 => exact rfl); (case c4 => exact rfl); k_whole; intro g' L' h' tk' cells' FG' F' N' Y' B' X' T' l1; (try k_lt l1); k_cells Y'; (try simp only [List.cons_append, List.nil_append] at N'); (try dsimp only); (try k_lift B'); (try k_fold)))))
  (k_with "call builtin:len" => (((with_reducible show wpAny _ _ (call (Value.builtin _) [Value.str _ _]) _ _ _); refine len_str (by omega) ?_)))
  (k_with "SearchPost" => (((with_reducible show SearchPost _ _ _ _ _ _ _ _ _ (Flow.ret _) _); dsimp only [SearchPost])))
  (k_with "my sub" => (first | exact fun _ h => h | exact fun _ h => List.mem_cons_of_mem _ h | exact fun _ h => List.mem_cons_of_mem _ (List.mem_cons_of_mem _ h) | exact fun _ h => List.mem_cons_of_mem _ (List.mem_cons_of_mem _ (List.mem_cons_of_mem _ h))))
  (k_with "k_all" => (first | assumption | exact off_of (by assumption) (by omega)))
  (k_with "my le" => (first | exact le_of 0 rfl (by assumption) | exact le_of 1 rfl (by assumption) | exact le_of 2 rfl (by assumption) | exact le_of 3 rfl (by assumption) | exact le_of 6 rfl (by assumption) | exact le_of 4 rfl (by assumption) | exact le_of 5 rfl (by assumption)))
  (k_with "eval ListComp" => ((k_here; (rename Fr _ _ _ _ => lF'); k_dflt (refine LCt.ListComp_T lF' (by rfl) (by decide) (by rfl) (by decide) (by rfl) ?_ (by intro _; with_unfolding_all rfl)))))
  (k_with "call ref" => ((k_here; (with_reducible show wpAny _ _ (call (Value.ref 219) [Value.ref _, Value.str _ _, Value.str _ _]) _ _ _); (rename Fr _ _ _ _ => lF'); (rename News _ _ _ _ => lN'); k_dflt (refine (takes_con _ _ _ _ _ _ _ _ _ _ _ hT1 hT2 hT3 hT4 hT5).use lF' lN' (by with_unfolding_all rfl) (by k_extra "my le") (by k_extra "my le") (by assumption) (by assumption) (by assumption) (by rfl) ?_); clear lF' lN'; intro v' news' h' tk' hp' F' N'; (obtain ⟨e1', e2'⟩ := hp'; subst e1' e2'))))
  trivial
theorem cells3 {cm : Str → Option Value} {n n' n'' : Str} {c c' c'' : Addr} {cells : List (Addr × Obj)} (x : CellsAre cm [(n, c), (n', c'), (n'', c'')] cells) :
    ∃ o o' o'', cells = [(c, o), (c', o'), (c'', o'')] ∧ o.data = .cell (cm n) ∧ o'.data = .cell (cm n') ∧ o''.data = .cell (cm n'') := by
  cases x with | cons h r => obtain ⟨o', o'', rfl, h', h''⟩ := r.two; exact ⟨_, o', o'', rfl, h, h', h''⟩
/-- the lists of parts that a sieve holds -/
inductive PartsIn (star : Str) (nw : List (Addr × Obj)) : List Value → List (List Str × Bool) → Prop
  | nil : PartsIn star nw [] []
  | cons (p : Addr) (k : Nat) (pv : List Value) (cs : List Str) (b : Bool) (vs : List Value) (ps : List (List Str × Bool)) : (p, lst pv k) ∈ nw → StrsAre pv (cs ++ if b then [star] else []) → PartsIn star nw vs ps → PartsIn star nw (.ref p :: vs) ((cs, b) :: ps)
theorem PartsIn.at {star : Str} {nw : List (Addr × Obj)} : ∀ {vs : List Value} {ps : List (List Str × Bool)}, PartsIn star nw vs ps → ∀ {i : Nat} {v : Value}, vs[i]? = some v → ∃ p k pv cs b, v = .ref p ∧ (p, lst pv k) ∈ nw ∧ StrsAre pv (cs ++ if b then [star] else []) ∧ ps[i]? = some (cs, b)
  | _, _, .nil, _, _, h => by cases h
  | _, _, .cons p k pv cs b vs ps m hs r, 0, _, h => by cases h; exact ⟨p, k, pv, cs, b, rfl, m, hs, rfl⟩
  | _, _, .cons p k pv cs b vs ps m hs r, i + 1, v, h => r.at (i := i) h
theorem any_take {α : Type} {f : α → Bool} : ∀ {ps : List α} {i : Nat} {p : α}, ps[i]? = some p → (ps.take (i + 1)).any f = ((ps.take i).any f || f p)
  | [], _, _, h => by cases h
  | q :: ps, 0, p, h => by cases h; simp
  | q :: ps, i + 1, p, h => by
    have := any_take (f := f) (ps := ps) (i := i) h
    simp only [List.take_succ_cons, List.any_cons, this, Bool.or_assoc]
theorem PartsIn.len {star : Str} {nw : List (Addr × Obj)} : ∀ {vs : List Value} {ps : List (List Str × Bool)}, PartsIn star nw vs ps → vs.length = ps.length
  | _, _, .nil => rfl
  | _, _, .cons _ _ _ _ _ _ _ _ _ r => by simp [r.len]
noncomputable def patF (ps0 ps1 : List (List Str × Bool)) (module name : Str) : Int := if (module == Str.ofString "<string>") = true then 1 else if ((ps0.any fun p => takesF p.1 p.2 module) || ps1.any fun p => takesF p.1 p.2 name) = true then 1 else 0
theorem units_of {A : Around} {un b : Nat} (h : un ≤ b) (k : Nat) (e : A.units = un + k) (hk : k + b < 9900 := by decide) : A.units < cLine := by unfold cLine; omega
theorem eq_nil {prog : Program} {w : World} {A : Around} {E Q : Value → Shared → Prop} {s : Shared} {l b : Addr} {items : Array Value} {r : Bool} (hl : s.heap.IsList l items) (hb : s.heap.IsList b #[]) (hu : A.units < cLine) (hr : items.isEmpty = r) (h : Q (.bool r) s) : wpAny (model prog w) A (compareOp .Eq (.ref l) (.ref b)) Q E s := by
  subst hr
  by_cases e : items.size = 0
  · obtain rfl := Array.eq_empty_of_size_eq_zero e
    exact SeqAt.eq_listAt (e := fun _ => true) hl hb rfl hu (fun j h1 _ => absurd h1 (Nat.not_lt_zero _)) h
  · refine SeqAt.eq_list_lengthsAt hl hb (by simpa using e) hu ?_
    rw [show items.isEmpty = false from by rw [Array.isEmpty, decide_eq_false_iff_not]; exact e] at h
    exact h
theorem emp_app {α : Type} (a b : List α) : (a ++ b).toArray.isEmpty = (a.isEmpty && b.isEmpty) := by cases a <;> cases b <;> simp
theorem sub_at {prog : Program} {w : World} {A : Around} {s : Shared} {E Q : Value → Shared → Prop} {value slice : PySem.Expr} {l : Addr} {vs : List Value} {x : Value} {k : Int} {u : Tok} (hl : s.heap.IsList l vs.toArray) (h0 : 0 ≤ k) (hf : k < 2 ^ 63) (hx : vs[k.toNat]? = some x) (h : Q x s)
    (hs : subscripted slice false (.ref l) (.int k u) = operate [.ref l, .int k u] (getItem (.ref l) (.int k u)) := by with_unfolding_all rfl) : wpAny (model prog w) A (subscriptTail value slice (.ref l) (.int k u)) Q E s :=
  tail_any hl.typeIs slot_list_getitem.lookup (wpAny_getItem_list hl h0 hf (x := x) (by simpa using hx) h) hs
example : True := by
  (k_with "subscriptTail Name Constant ref int" => ((k_here; (rename News _ _ _ _ => lN'); (refine sub_at (isl_of (vs := [.ref s0, .ref s1]) lN' (by first | exact .tail _ (.tail _ (.tail _ h1)) | exact .tail _ (.tail _ (.tail _ (.tail _ h1))))) (by decide) (by decide) rfl ?_))))
  trivial
namespace Hpatterned_con
noncomputable def Pre (w : World) (sv : Addr) (s0 : Addr) (s1 : Addr) (k : Nat) (k0 : Nat) (k1 : Nat) (vs0 : List Value) (vs1 : List Value) (ps0 : List (List Str × Bool)) (ps1 : List (List Str × Bool)) (news : List (Addr × Obj)) (star : Str) (module : Str) (name : Str) (t1 : Tok) (t2 : Tok) (t3 : Tok) (cd : CD) : Prop :=
  ((sv, lst [.ref s0, .ref s1] k) ∈ news) → ((s0, lst vs0 k0) ∈ news) → ((s1, lst vs1 k1) ∈ news) → (PartsIn star news vs0 ps0) → (PartsIn star news vs1 ps1) → (∀ p ∈ ps0, ∀ x ∈ p.1, Small x ∧ (x == star) = false ∧ 1 ≤ x.length) → (∀ p ∈ ps1, ∀ x ∈ p.1, Small x ∧ (x == star) = false ∧ 1 ≤ x.length) → (vs0.length ≤ 64) → (vs1.length ≤ 64) → (Small star) → (Small module) → (Small name) → cd.Ok 470 w 224 [.ref sv, .str star t1, .str module t2, .str name t3] news (fun v news' => news' = news ∧ ∃ t, v = .int (patF ps0 ps1 module name) t)
noncomputable abbrev Dat : Type := World × Addr × Addr × Addr × Nat × Nat × Nat × (List Value) × (List Value) × (List (List Str × Bool)) × (List (List Str × Bool)) × (List (Addr × Obj)) × Str × Str × Str × Tok × Tok × Tok × CD
noncomputable def d₀ : Dat := (wd, (0 : Nat), (0 : Nat), (0 : Nat), 0, 0, 0, [], [], [], [], [], (Str.ofString ""), (Str.ofString ""), (Str.ofString ""), (0 : Nat), (0 : Nat), (0 : Nat), CD.d)
@[irreducible] noncomputable def z₀ : Dat := eps d₀ fun z => ¬ Pre z.1 z.2.1 z.2.2.1 z.2.2.2.1 z.2.2.2.2.1 z.2.2.2.2.2.1 z.2.2.2.2.2.2.1 z.2.2.2.2.2.2.2.1 z.2.2.2.2.2.2.2.2.1 z.2.2.2.2.2.2.2.2.2.1 z.2.2.2.2.2.2.2.2.2.2.1 z.2.2.2.2.2.2.2.2.2.2.2.1 z.2.2.2.2.2.2.2.2.2.2.2.2.1 z.2.2.2.2.2.2.2.2.2.2.2.2.2.1 z.2.2.2.2.2.2.2.2.2.2.2.2.2.2.1 z.2.2.2.2.2.2.2.2.2.2.2.2.2.2.2.1 z.2.2.2.2.2.2.2.2.2.2.2.2.2.2.2.2.1 z.2.2.2.2.2.2.2.2.2.2.2.2.2.2.2.2.2.1 z.2.2.2.2.2.2.2.2.2.2.2.2.2.2.2.2.2.2
@[irreducible] noncomputable def w : World := z₀.1
@[irreducible] noncomputable def sv : Addr := z₀.2.1
@[irreducible] noncomputable def s0 : Addr := z₀.2.2.1
@[irreducible] noncomputable def s1 : Addr := z₀.2.2.2.1
@[irreducible] noncomputable def k : Nat := z₀.2.2.2.2.1
@[irreducible] noncomputable def k0 : Nat := z₀.2.2.2.2.2.1
@[irreducible] noncomputable def k1 : Nat := z₀.2.2.2.2.2.2.1
@[irreducible] noncomputable def vs0 : List Value := z₀.2.2.2.2.2.2.2.1
@[irreducible] noncomputable def vs1 : List Value := z₀.2.2.2.2.2.2.2.2.1
@[irreducible] noncomputable def ps0 : List (List Str × Bool) := z₀.2.2.2.2.2.2.2.2.2.1
@[irreducible] noncomputable def ps1 : List (List Str × Bool) := z₀.2.2.2.2.2.2.2.2.2.2.1
@[irreducible] noncomputable def news : List (Addr × Obj) := z₀.2.2.2.2.2.2.2.2.2.2.2.1
@[irreducible] noncomputable def star : Str := z₀.2.2.2.2.2.2.2.2.2.2.2.2.1
@[irreducible] noncomputable def module : Str := z₀.2.2.2.2.2.2.2.2.2.2.2.2.2.1
@[irreducible] noncomputable def name : Str := z₀.2.2.2.2.2.2.2.2.2.2.2.2.2.2.1
@[irreducible] noncomputable def t1 : Tok := z₀.2.2.2.2.2.2.2.2.2.2.2.2.2.2.2.1
@[irreducible] noncomputable def t2 : Tok := z₀.2.2.2.2.2.2.2.2.2.2.2.2.2.2.2.2.1
@[irreducible] noncomputable def t3 : Tok := z₀.2.2.2.2.2.2.2.2.2.2.2.2.2.2.2.2.2.1
@[irreducible] noncomputable def cd : CD := z₀.2.2.2.2.2.2.2.2.2.2.2.2.2.2.2.2.2.2
@[irreducible] noncomputable def ent : (B : Heap → Addr → Heap → Prop) ×' ((∀ g L h, B g L h) → Pre w sv s0 s1 k k0 k1 vs0 vs1 ps0 ps1 news star module name t1 t2 t3 cd) := by
  apply PSigma.mk
  intro hB
  intro h1 h2 h3 hpA hpB hc0 hc1 hl0 hl1 hm hmo hn hdp hun B F X N T hQ
  have hk : (⟨.function, cd.cnm, cd.cg, cd.cc, cd.cm⟩ : Scope).kind = .function := rfl
  refine wpAny_call ?_
  k_dflt (refine' code_defC ?k1 ?k2 ?k3 ?k4 ?k5 ?kA ?kF ?kK ?k6 ?k7 ?k8 ?k9 ?kB ?kD ?_ ?c2 ?c3 ?c4; (case kA => exact rfl); (case kF => exact rfl); (case kK => first | exact rfl | assumption); (case k1 => k_asm); (case k2 => k_asm); (case k3 => k_asm); (case k4 => k_asm); (case k5 => k_asm); (case k6 => k_is); (case k7 => k_is); (case k8 => k_room); (case k9 => first | exact BindsTo.of_eq rfl | exact binds_K (by k_in) rfl (by k_is) rfl rfl rfl | fail "k_enter: no rule for these arguments"); (case kB => exact rfl); (case kD => decide +kernel); (case c2 => exact rfl); (case c3 => exact rfl); (case c4 => exact rfl); k_whole; intro g1 L1 hp1 tkc cells1 FG1 F1 N1 Y1 B1 X1 T1 l1)
  clear hk
  revert h1 h2 h3 hpA hpB hc0 hc1 hl0 hl1 hm hmo hn hdp hun B F X N T hQ tkc cells1 FG1 F1 N1 Y1 B1 X1 T1 l1
  exact hB g1 L1 hp1
noncomputable abbrev Dat₂ : Type := Heap × Addr × Heap
@[irreducible] noncomputable def z₂ : Dat₂ := eps ({}, (0 : Nat), {}) fun z => ¬ ent.1 z.1 z.2.1 z.2.2
@[irreducible] noncomputable def g1 : Heap := z₂.1
@[irreducible] noncomputable def L1 : Addr := z₂.2.1
@[irreducible] noncomputable def hp1 : Heap := z₂.2.2
theorem body : ent.1 g1 L1 hp1 := by
  delta ent
  intro h1 h2 h3 hpA hpB hc0 hc1 hl0 hl1 hm hmo hn hdp hun B F X N T hQ tkc cells1 FG1 F1 N1 Y1 B1 X1 T1 l1
  have hk : (⟨.function, cd.cnm, cd.cg, cd.cc, cd.cm⟩ : Scope).kind = .function := rfl
  obtain ⟨oA, oB, oC, hE, dA, dB, dC⟩ := cells3 Y1
  subst hE
  clear Y1
  simp only [List.cons_append, List.nil_append] at N1
  have dA' : oA.data = .cell (some (.str name t3)) := dA
  have dB' : oB.data = .cell (some (.str module t2)) := dB
  have dC' : oC.data = .cell (some (.str star t1)) := dC
  clear dA dB dC
  k_steps
  all_goals (try k_data)
  · exact hQ _ _ _ _ ⟨rfl, _, congrArg (Value.int · _) (by unfold patF; rw [if_pos (by assumption)])⟩ (by assumption) (cb_drop (by assumption) fun _ h => .tail _ (.tail _ (.tail _ h)))
  (rename Fr g1 L1 _ _ => lF'); (rename News g1 L1 _ _ => lN')
  with_unfolding_all refine LCt.CompSrcT.ledger (ax := s0) (its := vs0.toArray) (k := k0) rfl lF' lN' (.tail _ (.tail _ (.tail _ h2))) (by rw [List.size_toArray, sizeLine_eq]; omega) ?_
  intro gg1
  clear lF' lN'
  refine crt_ind (fun i ys nw => nw = (L1 + 1 + 1 + 1, oA) :: (L1 + 1 + 1, oB) :: (L1 + 1, oC) :: news ∧ ys.isEmpty = (!(ps0.take i).any fun p => takesF p.1 p.2 module) ∧ ys.length ≤ i) _ ?fin1 ?turn1 ⟨rfl, rfl, Nat.le_refl _⟩
  case turn1 =>
    intro k i ys nw v I oI C oD D m₂ h tk E' hik hj hP hC hx F3 N3 off3 ne3 next
    obtain ⟨rfl, hj, hjl⟩ := hj
    have hv : vs0[i]? = some v := by simpa using hP
    obtain ⟨p, kp, pv, cs9, b9, rfl, hm9, hs9, hm9'⟩ := hpA.at hv
    have hT1 : (p, lst pv kp) ∈ (I, oI) :: (C, oD) :: (D, LCg.lst ys) :: (L1 + 1 + 1 + 1, oA) :: (L1 + 1 + 1, oB) :: (L1 + 1, oC) :: news := (.tail _ (.tail _ (.tail _ (.tail _ (.tail _ (.tail _ hm9))))))
    have hT2 := hs9
    have hT3 := hc0 _ (List.mem_of_getElem? hm9')
    dsimp only at hT3
    have hT4 := hm
    have hT5 := hmo
    k_steps
    · (rename Fr g1 L1 _ _ => lF'); (rename News g1 L1 _ _ => lN')
      exact cend lF' lN' off3 (.inr ⟨_, (.tail _ (.tail _ (.tail _ h2))), rfl, _, rfl⟩) (next _ _ ⟨rfl, by rw [any_take hm9', (by assumption : takesF cs9 b9 module = true)]; simp, by simp; omega⟩)
    · (rename Fr g1 L1 _ _ => lF'); (rename News g1 L1 _ _ => lN')
      exact cend lF' lN' off3 (.inr ⟨_, (.tail _ (.tail _ (.tail _ h2))), rfl, _, rfl⟩) (next _ _ ⟨rfl, by rw [any_take hm9', (by assumption : takesF cs9 b9 module = false), hj, Bool.or_false], by omega⟩)
  case fin1 =>
    rintro ys1 nw ⟨rfl, hy1, hyl1⟩ D1 h tk F3 N3 off3
    dsimp only
    rw [List.size_toArray] at hy1 hyl1
    k_steps
    (rename Fr g1 L1 _ _ => lF'); (rename News g1 L1 _ _ => lN')
    with_unfolding_all refine LCt.CompSrcT.ledger (ax := s1) (its := vs1.toArray) (k := k1) rfl lF' lN' (.tail _ (.tail _ (.tail _ (.tail _ h3)))) (by rw [List.size_toArray, sizeLine_eq]; omega) ?_
    intro gg2
    clear lF' lN'
    refine crt_ind (fun i ys nw => nw = (D1, LCg.lst ys1) :: (L1 + 1 + 1 + 1, oA) :: (L1 + 1 + 1, oB) :: (L1 + 1, oC) :: news ∧ ys.isEmpty = (!(ps1.take i).any fun p => takesF p.1 p.2 name) ∧ ys.length ≤ i) _ ?fin2 ?turn2 ⟨rfl, rfl, Nat.le_refl _⟩
    case turn2 =>
      intro k i ys nw v I oI C oD D m₂ h tk E' hik hj hP hC hx F3 N3 off3 ne3 next
      obtain ⟨rfl, hj, hjl⟩ := hj
      have hv : vs1[i]? = some v := by simpa using hP
      obtain ⟨p, kp, pv, cs9, b9, rfl, hm9, hs9, hm9'⟩ := hpB.at hv
      have hT1 : (p, lst pv kp) ∈ (I, oI) :: (C, oD) :: (D, LCg.lst ys) :: (D1, LCg.lst ys1) :: (L1 + 1 + 1 + 1, oA) :: (L1 + 1 + 1, oB) :: (L1 + 1, oC) :: news := (.tail _ (.tail _ (.tail _ (.tail _ (.tail _ (.tail _ (.tail _ hm9)))))))
      have hT2 := hs9
      have hT3 := hc1 _ (List.mem_of_getElem? hm9')
      dsimp only at hT3
      have hT4 := hm
      have hT5 := hn
      k_steps
      · (rename Fr g1 L1 _ _ => lF'); (rename News g1 L1 _ _ => lN')
        exact cend lF' lN' off3 (.inr ⟨_, (.tail _ (.tail _ (.tail _ (.tail _ h3)))), rfl, _, rfl⟩) (next _ _ ⟨rfl, by rw [any_take hm9', (by assumption : takesF cs9 b9 name = true)]; simp, by simp; omega⟩)
      · (rename Fr g1 L1 _ _ => lF'); (rename News g1 L1 _ _ => lN')
        exact cend lF' lN' off3 (.inr ⟨_, (.tail _ (.tail _ (.tail _ (.tail _ h3)))), rfl, _, rfl⟩) (next _ _ ⟨rfl, by rw [any_take hm9', (by assumption : takesF cs9 b9 name = false), hj, Bool.or_false], by omega⟩)
    case fin2 =>
      rintro ys2 nw ⟨rfl, hy2, hyl2⟩ D2 h tk F3 N3 off3
      dsimp only
      rw [List.size_toArray] at hy2 hyl2
      k_steps
      (rename News g1 L1 _ _ => lN')
      dsimp only at lN'
      refine eq_nil (r := !((ps0.any fun p => takesF p.1 p.2 module) || ps1.any fun p => takesF p.1 p.2 name)) ⟨_, (lN' _ (.tail _ (.head _))).1, rfl, _, rfl⟩ ⟨_, (lN' _ (.head _)).1, rfl, _, rfl⟩ (by first | exact units_of hun 1 rfl | exact units_of hun 2 rfl | exact units_of hun 3 rfl | exact units_of hun 4 rfl | exact units_of hun 5 rfl | exact units_of hun 6 rfl | exact units_of hun 7 rfl | exact units_of hun 8 rfl) ?_ ?_
      · rw [hpA.len, List.take_length] at hy1
        rw [hpB.len, List.take_length] at hy2
        rw [emp_app, hy1, hy2, Bool.not_or]
      · have hpf : patF ps0 ps1 module name = if (!((ps0.any fun p => takesF p.1 p.2 module) || ps1.any fun p => takesF p.1 p.2 name)) = true then 0 else 1 := by
          unfold patF
          rw [if_neg (by rw [(by assumption : (module == Str.ofString "<string>") = false)]; exact Bool.false_ne_true)]
          cases ((ps0.any fun p => takesF p.1 p.2 module) || ps1.any fun p => takesF p.1 p.2 name) <;> rfl
        generalize (!((ps0.any fun p => takesF p.1 p.2 module) || ps1.any fun p => takesF p.1 p.2 name)) = r at hpf ⊢
        cases r
        · k_steps
          exact hQ _ _ _ _ ⟨rfl, _, congrArg (Value.int · _) hpf.symm⟩ (by assumption) (cb_drop (by assumption) fun _ h => .tail _ (.tail _ (.tail _ (.tail _ (.tail _ (.tail _ (.tail _ h)))))))
        · k_steps
          exact hQ _ _ _ _ ⟨rfl, _, congrArg (Value.int · _) hpf.symm⟩ (by assumption) (cb_drop (by assumption) fun _ h => .tail _ (.tail _ (.tail _ (.tail _ (.tail _ (.tail _ (.tail _ h)))))))
theorem main : Pre w sv s0 s1 k k0 k1 vs0 vs1 ps0 ps1 news star module name t1 t2 t3 cd := PSigma.snd ent (eps_all3 (P := ent.1) (z := z₂) (by delta z₂; exact rfl) (by delta g1; exact rfl) (by delta L1; exact rfl) (by delta hp1; exact rfl) body)
end Hpatterned_con
theorem patterned_con (w : World) (sv s0 s1 : Addr) (k k0 k1 : Nat) (vs0 vs1 : List Value) (ps0 ps1 : List (List Str × Bool)) (news : List (Addr × Obj)) (star module name : Str) (t1 t2 t3 : Tok)
    (h1 : (sv, lst [.ref s0, .ref s1] k) ∈ news) (h2 : (s0, lst vs0 k0) ∈ news) (h3 : (s1, lst vs1 k1) ∈ news) (hpA : PartsIn star news vs0 ps0) (hpB : PartsIn star news vs1 ps1)
    (hc0 : ∀ p ∈ ps0, ∀ x ∈ p.1, Small x ∧ (x == star) = false ∧ 1 ≤ x.length) (hc1 : ∀ p ∈ ps1, ∀ x ∈ p.1, Small x ∧ (x == star) = false ∧ 1 ≤ x.length) (hl0 : vs0.length ≤ 64) (hl1 : vs1.length ≤ 64) (hm : Small star) (hmo : Small module) (hn : Small name) :
    Con 470 w 224 [.ref sv, .str star t1, .str module t2, .str name t3] news (fun v news' => news' = news ∧ ∃ t, v = .int (patF ps0 ps1 module name) t) :=
  con_of fun c => eps_allz (z := Hpatterned_con.z₀) (P := fun z : Hpatterned_con.Dat => Hpatterned_con.Pre z.1 z.2.1 z.2.2.1 z.2.2.2.1 z.2.2.2.2.1 z.2.2.2.2.2.1 z.2.2.2.2.2.2.1 z.2.2.2.2.2.2.2.1 z.2.2.2.2.2.2.2.2.1 z.2.2.2.2.2.2.2.2.2.1 z.2.2.2.2.2.2.2.2.2.2.1 z.2.2.2.2.2.2.2.2.2.2.2.1 z.2.2.2.2.2.2.2.2.2.2.2.2.1 z.2.2.2.2.2.2.2.2.2.2.2.2.2.1 z.2.2.2.2.2.2.2.2.2.2.2.2.2.2.1 z.2.2.2.2.2.2.2.2.2.2.2.2.2.2.2.1 z.2.2.2.2.2.2.2.2.2.2.2.2.2.2.2.2.1 z.2.2.2.2.2.2.2.2.2.2.2.2.2.2.2.2.2.1 z.2.2.2.2.2.2.2.2.2.2.2.2.2.2.2.2.2.2) (by delta Hpatterned_con.z₀; exact rfl) (by with_unfolding_all exact Hpatterned_con.main) (w, sv, s0, s1, k, k0, k1, vs0, vs1, ps0, ps1, news, star, module, name, t1, t2, t3, c) h1 h2 h3 hpA hpB hc0 hc1 hl0 hl1 hm hmo hn
namespace Hpatterned_con0
noncomputable def Pre (w : World) (sv : Addr) (news : List (Addr × Obj)) (star : Str) (module : Str) (t1 : Tok) (t2 : Tok) (cd : CD) : Prop :=
  cd.Ok 470 w 224 [.ref sv, .str star t1, .str module t2, .none] news (fun v news' => news' = news ∧ ∃ t, v = .int 1 t)
noncomputable abbrev Dat : Type := World × Addr × (List (Addr × Obj)) × Str × Str × Tok × Tok × CD
noncomputable def d₀ : Dat := (wd, (0 : Nat), [], (Str.ofString ""), (Str.ofString ""), (0 : Nat), (0 : Nat), CD.d)
@[irreducible] noncomputable def z₀ : Dat := eps d₀ fun z => ¬ Pre z.1 z.2.1 z.2.2.1 z.2.2.2.1 z.2.2.2.2.1 z.2.2.2.2.2.1 z.2.2.2.2.2.2.1 z.2.2.2.2.2.2.2
@[irreducible] noncomputable def w : World := z₀.1
@[irreducible] noncomputable def sv : Addr := z₀.2.1
@[irreducible] noncomputable def news : List (Addr × Obj) := z₀.2.2.1
@[irreducible] noncomputable def star : Str := z₀.2.2.2.1
@[irreducible] noncomputable def module : Str := z₀.2.2.2.2.1
@[irreducible] noncomputable def t1 : Tok := z₀.2.2.2.2.2.1
@[irreducible] noncomputable def t2 : Tok := z₀.2.2.2.2.2.2.1
@[irreducible] noncomputable def cd : CD := z₀.2.2.2.2.2.2.2
@[irreducible] noncomputable def ent : (B : Heap → Addr → Heap → Prop) ×' ((∀ g L h, B g L h) → Pre w sv news star module t1 t2 cd) := by
  apply PSigma.mk
  intro hB
  intro hdp hun B F X N T hQ
  have hk : (⟨.function, cd.cnm, cd.cg, cd.cc, cd.cm⟩ : Scope).kind = .function := rfl
  refine wpAny_call ?_
  k_dflt (refine' code_defC ?k1 ?k2 ?k3 ?k4 ?k5 ?kA ?kF ?kK ?k6 ?k7 ?k8 ?k9 ?kB ?kD ?_ ?c2 ?c3 ?c4; (case kA => exact rfl); (case kF => exact rfl); (case kK => first | exact rfl | assumption); (case k1 => k_asm); (case k2 => k_asm); (case k3 => k_asm); (case k4 => k_asm); (case k5 => k_asm); (case k6 => k_is); (case k7 => k_is); (case k8 => k_room); (case k9 => first | exact BindsTo.of_eq rfl | exact binds_K (by k_in) rfl (by k_is) rfl rfl rfl | fail "k_enter: no rule for these arguments"); (case kB => exact rfl); (case kD => decide +kernel); (case c2 => exact rfl); (case c3 => exact rfl); (case c4 => exact rfl); k_whole; intro g1 L1 hp1 tkc cells1 FG1 F1 N1 Y1 B1 X1 T1 l1)
  clear hk
  revert hdp hun B F X N T hQ tkc cells1 FG1 F1 N1 Y1 B1 X1 T1 l1
  exact hB g1 L1 hp1
noncomputable abbrev Dat₂ : Type := Heap × Addr × Heap
@[irreducible] noncomputable def z₂ : Dat₂ := eps ({}, (0 : Nat), {}) fun z => ¬ ent.1 z.1 z.2.1 z.2.2
@[irreducible] noncomputable def g1 : Heap := z₂.1
@[irreducible] noncomputable def L1 : Addr := z₂.2.1
@[irreducible] noncomputable def hp1 : Heap := z₂.2.2
theorem body : ent.1 g1 L1 hp1 := by
  delta ent
  intro hdp hun B F X N T hQ tkc cells1 FG1 F1 N1 Y1 B1 X1 T1 l1
  have hk : (⟨.function, cd.cnm, cd.cg, cd.cc, cd.cm⟩ : Scope).kind = .function := rfl
  obtain ⟨oA, oB, oC, hE, dA, dB, dC⟩ := cells3 Y1
  subst hE
  clear Y1
  simp only [List.cons_append, List.nil_append] at N1
  have dA' : oA.data = .cell (some .none) := dA
  have dB' : oB.data = .cell (some (.str module t2)) := dB
  have dC' : oC.data = .cell (some (.str star t1)) := dC
  clear dA dB dC
  k_steps
  all_goals (try k_data)
  all_goals exact hQ _ _ _ _ ⟨rfl, _, rfl⟩ (by assumption) (cb_drop (by assumption) fun _ h => .tail _ (.tail _ (.tail _ h)))
theorem main : Pre w sv news star module t1 t2 cd := PSigma.snd ent (eps_all3 (P := ent.1) (z := z₂) (by delta z₂; exact rfl) (by delta g1; exact rfl) (by delta L1; exact rfl) (by delta hp1; exact rfl) body)
end Hpatterned_con0
theorem patterned_con0 (w : World) (sv : Addr) (news : List (Addr × Obj)) (star module : Str) (t1 t2 : Tok) :
    Con 470 w 224 [.ref sv, .str star t1, .str module t2, .none] news (fun v news' => news' = news ∧ ∃ t, v = .int 1 t) :=
  con_of fun c => eps_allz (z := Hpatterned_con0.z₀) (P := fun z : Hpatterned_con0.Dat => Hpatterned_con0.Pre z.1 z.2.1 z.2.2.1 z.2.2.2.1 z.2.2.2.2.1 z.2.2.2.2.2.1 z.2.2.2.2.2.2.1 z.2.2.2.2.2.2.2) (by delta Hpatterned_con0.z₀; exact rfl) (by with_unfolding_all exact Hpatterned_con0.main) (w, sv, news, star, module, t1, t2, c) 
end
section
/-- are sets walked by the text's order -/
noncomputable abbrev byT (w : World) : Bool := w.params.followText "set-order"
/-- a set that was made of the texts ms -/
noncomputable def StrSet (w : World) (o : Obj) (ms : List Str) : Prop :=
  o.ExactSet ∧ ∃ es ep t, o.data = .set es ep t ∧ ElemsOf (PySem.strKind P w) es.toList ∧ t.fits es.size = true ∧ (∀ y, y ∈ ms ↔ ∃ e ∈ es.toList, (PySem.strKind P w).is y e.2 = true) ∧ es.size = ms.length ∧ t.led = !(byT w) ∧ (es.size ≠ 0 → t.plain = false)
noncomputable def StrSetAt (w : World) (h : Heap) (a : Addr) (ms : List Str) : Prop := ∃ o, h.get? a = some o ∧ StrSet w o ms
theorem orStandIn_led (t : SetTable) (n : Nat) : (t.orStandIn n).led = t.led := by unfold SetTable.orStandIn; split <;> rfl
theorem layNew_led (t : SetTable) (es : Array (Int × Value)) (h : Int) (x : Value) : (layNew t es h x).2.1.led = t.led := by
  unfold layNew
  split
  · exact orStandIn_led _ _
  · rfl
theorem relayAll_led (t : SetTable) (es : Array (Int × Value)) (n : Nat) : (relayAll t es n).2.1.led = t.led ∧ (t.plain = false → (relayAll t es n).2.1.plain = false) := by
  unfold relayAll
  split
  · rename_i t' order h
    have ht : t'.led = t.led ∧ t'.plain = t.plain := by
      unfold SetTable.relaid SetTable.laid at h
      cases hc : SetTable.layClean (SetTable.sizeAbove n - 1) (es.map (·.1)) with
      | none => rw [hc] at h; cases h
      | some owner => rw [hc] at h; cases h; exact ⟨rfl, rfl⟩
    dsimp only
    split
    · exact ⟨ht.1, fun q => by rw [ht.2]; exact q⟩
    · exact ⟨rfl, fun _ => rfl⟩
  · exact ⟨rfl, fun _ => rfl⟩
theorem orStandIn_plain (t : SetTable) (n : Nat) (h : t.plain = false) : (t.orStandIn n).plain = false := by unfold SetTable.orStandIn; split; exact h; rfl
section
variable {w : World} {A : Around} {E : Value → Shared → Prop} {s : Shared}
/-- the end of an adding: the two stores -/
theorem addEnd {g : Bool → Sem Unit} (hg : ∀ (b : Bool) (s₁ : Shared) (Q' : Unit → Shared → Prop), Q' () s₁ → wpAny (model P w) A (g b) Q' E s₁) {a : Addr} {o : Obj} {es es1 : Array (Int × Value)} {ep : Nat} {t t2 : SetTable} {ms : List Str}
    (ho : s.heap.get? a = some o) (hd : o.data = .set es ep t) (hex : o.ExactSet) (hel1 : ElemsOf (PySem.strKind P w) es1.toList) (hmem1 : ∀ y, y ∈ ms ↔ ∃ e ∈ es1.toList, (PySem.strKind P w).is y e.2 = true) (hb1 : es1.size < scanBound) (hf2 : t2.fits es1.size = true)
    (hn : es1.size = ms.length) (hled : t2.led = !(byT w)) (hpl : t2.plain = false) {wasDummy : Bool} {R : Option Bool → Shared → Prop}
    (h : ∀ h', Heap.SameBut a s.heap h' → StrSetAt w h' a ms → R (some true) { s with heap := h' }) :
    wpAny (model P w) A (do
        storeSet a es1 t2
        if (!wasDummy && t2.tooFull) = true then do
            g (relayAll t2 es1 (SetTable.grown es1.size)).2.2
            storeSet a (relayAll t2 es1 (SetTable.grown es1.size)).1 (relayAll t2 es1 (SetTable.grown es1.size)).2.1
            pure (some true)
          else pure (some true)) R E s := by
  refine wpAny_bind (wpAny_storeSet_of ho hd ?_ (fits_of_scanBound hb1))
  have ho1 := (SetOf_store (knd := PySem.strKind P w) (S' := fun y => decide (y ∈ ms)) ho hex hd hel1 (fun k => by rw [decide_eq_true_eq]; exact hmem1 k) hb1 hf2).1
  have hsb1 := Heap.SameBut.update s.heap a (Obj.putSet es1 t2)
  split
  · have hp := relayAll_perm t2 es1 (SetTable.grown es1.size)
    have hfr := relayAll_fits t2 es1 (SetTable.grown es1.size)
    have hlr := relayAll_led t2 es1 (SetTable.grown es1.size)
    generalize relayAll t2 es1 (SetTable.grown es1.size) = Rl at hp hfr hlr ⊢
    obtain ⟨es2, t3, gave2⟩ := Rl
    dsimp only at hp hfr hlr ⊢
    have hsz : es2.size = es1.size := by rw [← Array.length_toList, hp.length_eq, Array.length_toList]
    have hel2 : ElemsOf (PySem.strKind P w) es2.toList := hel1.perm hp
    have hmem2 : ∀ y, y ∈ ms ↔ ∃ e ∈ es2.toList, (PySem.strKind P w).is y e.2 = true := fun k' => (hmem1 k').trans ⟨fun ⟨e, he, q⟩ => ⟨e, hp.mem_iff.mpr he, q⟩, fun ⟨e, he, q⟩ => ⟨e, hp.mem_iff.mp he, q⟩⟩
    refine wpAny_bind (hg _ _ _ ?_)
    refine wpAny_bind (wpAny_storeSet_of ho1 rfl ?_ (fits_of_scanBound (by rw [hsz]; exact hb1)))
    have ho2 := (SetOf_store (knd := PySem.strKind P w) (S' := fun y => decide (y ∈ ms)) ho1 hex rfl hel2 (fun k => by rw [decide_eq_true_eq]; exact hmem2 k) (by rw [hsz]; exact hb1) hfr).1
    exact wpAny_pure (h _ (hsb1.trans (Heap.SameBut.update _ a _)) ⟨_, ho2, hex, es2, _, t3, rfl, hel2, hfr, hmem2, by rw [hsz]; exact hn, by rw [hlr.1]; exact hled, fun _ => hlr.2 hpl⟩)
  · exact wpAny_pure (h _ hsb1 ⟨_, ho1, hex, es1, _, t2, rfl, hel1, hf2, hmem1, hn, hled, fun _ => hpl⟩)
theorem setAdd_str {a : Addr} {ms : List Str} {y : Str} {u : Tok} {Q : Bool → Shared → Prop} (hS : StrSetAt w s.heap a ms) (hy : y ∉ ms) (hb : ms.length + 1 < scanBound)
    (h : ∀ h', Heap.SameBut a s.heap h' → StrSetAt w h' a (ms ++ [y]) → Q true { s with heap := h', toks := s.toks + 1 }) : wpAny (model P w) A (setAdd a (.str y u)) Q E s := by
  obtain ⟨o, ho, hex, es, ep, t, hd, hel, hf, hmem, hn, hled, hpl⟩ := hS
  have hkey : (PySem.strKind P w).is y (.str y u) = true := strKind_is _ _ _ _
  unfold setAdd
  refine wpAny_holding (wpAny_bind ((PySem.strKind P w).pyHash hkey ?_))
  unfold setAddHashed setAddHashedIn
  refine wpAny_holding (wpAny_bind (wpAny_setState_of (s := { s with toks := s.toks + 1 }) ho hd hf ?_))
  dsimp only
  rw [byScan_of (knd := PySem.strKind P w) rfl (by rw [hn]; omega) hel]
  simp only [↓reduceIte]
  unfold setAddByScan
  refine wpAny_bind ?_
  refine wpAny_bind (wpAny_rule ?_)
  refine wpAny_bind (wpAny_setScan_of hkey ho hd hf hel ?_)
  have hr : List.findIdx? (fun e => (PySem.strKind P w).is y e.2) es.toList = none := by
    rw [List.findIdx?_eq_none_iff]
    intro e he
    cases q : (PySem.strKind P w).is y e.2 with
    | false => rfl
    | true => exact absurd ((hmem y).mpr ⟨e, he, q⟩) hy
  rw [hr]
  dsimp only
  have hgw : ∀ (b : Bool) {s₁ : Shared} {Q' : Unit → Shared → Prop}, Q' () s₁ → wpAny (model P w) A (match b with | true => rule "set.scan.the-table-gave-way" | false => pure ()) Q' E s₁ :=
    fun b s₁ Q' hq => by cases b <;> first | exact wpAny_pure hq | exact wpAny_rule hq
  have hperm := layNew_perm t es ((PySem.strKind P w).hash y) (.str y u)
  have hfits := layNew_fits t es ((PySem.strKind P w).hash y) (.str y u)
  have hlled := layNew_led t es ((PySem.strKind P w).hash y) (.str y u)
  generalize layNew t es ((PySem.strKind P w).hash y) (.str y u) = L at hperm hfits hlled ⊢
  obtain ⟨es1, t1, wasDummy, gave⟩ := L
  dsimp only at hperm hfits hlled ⊢
  rw [Array.toList_push] at hperm
  have hel1 : ElemsOf (PySem.strKind P w) es1.toList := (hel.push hkey rfl).perm hperm
  have hmem1 : ∀ z, z ∈ ms ++ [y] ↔ ∃ e ∈ es1.toList, (PySem.strKind P w).is z e.2 = true := fun z => by
    have := mem_push_iff (S := fun z => decide (z ∈ ms)) hkey (fun k' => by rw [decide_eq_true_eq]; exact hmem k') hperm z
    rw [← this]; simp
  have hn1 : es1.size = (ms ++ [y]).length := by rw [← Array.length_toList, hperm.length_eq, List.length_append, List.length_append, Array.length_toList, hn]; rfl
  have hb1' : es1.size < scanBound := by rw [hn1, List.length_append]; exact hb
  refine wpAny_bind (hgw _ ?_)
  split
  · refine wpAny_bind ?_
    rw [hashByValue_scannable 8 rfl]
    refine wpAny_pure ?_
    rw [show plainKind (.str y u) = false from rfl]
    simp only [Bool.false_eq_true, if_false]
    refine addEnd (s := { s with toks := s.toks + 1 }) (t2 := { t1 with plain := false }) ?_ ho hd hex hel1 hmem1 hb1' (SetTable.fits_plain_off hfits) hn1 (by rw [← hled]; exact hlled) rfl ?_
    · intro b s₁ Q' hq; cases b <;> first | exact wpAny_pure hq | exact wpAny_rule hq
    · intro h' hsb hS'; dsimp only; exact wpAny_pure (h h' hsb hS')
  · rename_i hnp
    refine wpAny_bind (wpAny_pure ?_)
    simp only [↓reduceIte]
    refine addEnd (s := { s with toks := s.toks + 1 }) ?_ ho hd hex hel1 hmem1 hb1' hfits hn1 (by rw [← hled]; exact hlled) (by simpa using hnp) ?_
    · intro b s₁ Q' hq; cases b <;> first | exact wpAny_pure hq | exact wpAny_rule hq
    · intro h' hsb hS'; dsimp only; exact wpAny_pure (h h' hsb hS')
theorem upd_loop {I ax : Addr} {vs : List Value} (hh : A.in1.handled = none) (hne : ax ≠ I) (S : Addr) (hSI : S ≠ I) (hSa : S ≠ ax) {R : Result → Shared → Prop} :
    ∀ (k i : Nat) (r : List Value) (s : Shared) (rs ms : List Str), vs.length - i = k → i ≤ vs.length → vs.drop i = r → StrsAre r rs → (ms ++ rs).Nodup → (ms ++ rs).length < 64 → s.heap.IsListIter I ax i → s.heap.IsList ax vs.toArray → StrSetAt w s.heap S ms →
      (∀ h' tk, (∀ b o, b ≠ S → b ≠ I → s.heap.get? b = some o → h'.get? b = some o) → StrSetAt w h' S (ms ++ rs) → R (.ok (.ret .none)) { s with heap := h', toks := tk }) →
      codeAny (model P w) A (.builtin "set.update.loop" ⟨[.ref S, .ref I], []⟩) R s := by
  have W := Walks.list (prog := P) (w := w) (A := A.in1) hh I ax hne vs.toArray
  intro k
  induction k with
  | zero =>
    intro i r s rs ms hk hi hr hrs hnd hl hit hlist hS hR
    obtain rfl : i = vs.length := by omega
    rw [List.drop_length] at hr
    subst hr
    cases hrs
    refine codeAny_builtin F.entry_set_update_loop ?_
    rw [Around.under_plainId F.plain_set_update_loop _]
    show wpAny _ A.in1 (pyNext (.ref I) >>= _) _ _ s
    refine wpAny_bind (W.done s _ _ ⟨by simpa using hit, hlist⟩ fun h' tk hk => ?_)
    show wpAny _ A.in1 (ret Value.none) _ _ _
    rw [List.append_nil] at hR
    obtain ⟨o, ho, hS⟩ := hS
    exact wpAny_pure (hR h' tk (fun b o _ hb e => hk b o (by simpa using hb) e) ⟨o, hk S o (by simpa using hSI) ho, hS⟩)
  | succ k ih =>
    intro i r s rs ms hk hi hr hrs hnd hl hit hlist hS hR
    have hlt : i < vs.length := by omega
    rw [List.drop_eq_getElem_cons hlt] at hr
    subst hr
    obtain ⟨v0, hv0⟩ : ∃ v0, v0 = vs[i] := ⟨_, rfl⟩
    rw [← hv0] at hrs
    cases hrs with
    | cons y u hrs' =>
    rename_i rs'
    refine codeAny_builtin F.entry_set_update_loop ?_
    rw [Around.under_plainId F.plain_set_update_loop _]
    show wpAny _ A.in1 (pyNext (.ref I) >>= _) _ _ s
    refine wpAny_bind (W.item i s _ _ (by simpa using hlt) ⟨hit, hlist⟩ fun v h₁ tk₁ hP hst' hk₁ => ?_)
    have hP' : vs[i]? = some v := by simpa using hP
    rw [List.getElem?_eq_getElem hlt, ← hv0] at hP'
    cases hP'
    have hS₁ : StrSetAt w h₁ S ms := let ⟨o, ho, q⟩ := hS; ⟨o, hk₁ S o (by simpa using hSI) ho, q⟩
    have hy : y ∉ ms := fun hm => by
      have := (List.nodup_append.mp hnd).2.2 y hm y (.head _)
      exact this rfl
    rw [List.length_append, List.length_cons] at hl
    show wpAny _ A.in1 (holding [Value.str y u] (setAdd S (.str y u)) >>= _) _ _ _
    refine wpAny_bind (wpAny_holding (setAdd_str hS₁ hy (by unfold scanBound; omega) fun h₂ hsb hS₂ => ?_))
    have e1 : ms ++ y :: rs' = (ms ++ [y]) ++ rs' := by rw [List.append_assoc]; rfl
    refine wpAny_pure ⟨plainId_quiet F.plain_set_update_loop _, ih (i + 1) _ _ rs' (ms ++ [y]) (by omega) hlt rfl hrs' (by rw [← e1]; exact hnd) (by rw [← e1, List.length_append, List.length_cons]; exact hl)
      (hst'.1.extBut hsb.extBut (Ne.symm hSI)) (hst'.2.extBut hsb.extBut (Ne.symm hSa)) hS₂ fun h' tk hk' hS' => ?_⟩
    rw [e1] at hR
    exact hR h' tk (fun b o hbS hbI e => hk' b o hbS hbI (hsb.extBut b o hbS (hk₁ b o (by simpa using hbI) e))) hS'
theorem set_new (a : Value) {Q₁ : Value → Shared → Prop}
    (h : Q₁ (.ref s.heap.objs.size) { s with heap := s.heap.push { cls := .type "set", dict := none, data := .set #[] 0 (.fresh 0 0 (!(byT w))) } }) :
    codeAny (model P w) A (.call (.builtin "set.__new__") ⟨[.type "set", a], []⟩) (wants Q₁ E) s := by
  refine codeAny_of_tree ?_
  show wpAny _ A.in1 (do checkBuiltinCall "set.__new__" ⟨[.type "set", a], []⟩; again (.builtin "set.__new__" ⟨[.type "set", a], []⟩)) _ _ s
  refine wpAny_bind (wpAny_of_eq (F.newCall_set_1 a) (wpAny_pure ⟨plainId_quiet F.plain_set_new _, codeAny_builtin F.entry_set_new ?_⟩))
  rw [Around.under_plainId F.plain_set_new _]
  unfold Builtin.«set.__new__» Builtin.Frozenset.newClass
  have hsub := sub_set_self
  obtain ⟨hp, g, d, tk, os⟩ := s
  dsimp only
  wp_walk
  refine wpAny_askSetting (wpAny_pure ?_)
  dsimp only
  simp only [newObj]
  refine wpAny_bind (wpAny_alloc (wpAny_pure ?_))
  exact wpAny_pure h
theorem strSet_new : StrSet w { cls := .type "set", dict := none, data := .set #[] 0 (.fresh 0 0 (!(byT w))) } [] :=
  ⟨⟨rfl, rfl, rfl⟩, #[], 0, _, rfl, fun e he => by simp at he, by rfl, fun y => by simp, rfl, rfl, fun h => absurd rfl h⟩
theorem call_set_strs {l : Addr} {vs : List Value} {ms : List Str} {Q : Value → Shared → Prop} (hh : A.handled = none) (hl : s.heap.IsList l vs.toArray) (hi : StrsAre vs ms) (hnd : ms.Nodup) (hb : ms.length < 64)
    (h : ∀ (h' : Heap) (tk : Nat), StrSetAt w h' s.heap.objs.size ms → (∀ b o, b < s.heap.objs.size → s.heap.get? b = some o → h'.get? b = some o) → Q (.ref s.heap.objs.size) { s with heap := h', toks := tk }) :
    wpAny (model P w) A (call (.type "set") [.ref l]) Q E s := by
  obtain ⟨c, tl, hmro⟩ := F.called_set.mro
  have hmade := F.called_set.made
  have hsub := F.called_set.sub
  refine wpAny_call (codeAny_of_tree ?_)
  show wpAny _ _ (callAny (.type "set") _) _ _ _
  refine wpAny_pure ⟨Code.quiet_builtin _ (by decide +kernel), codeAny_builtin F.entry_type_call ?_⟩
  rw [Around.under_plain (weight_type_call_type "set" [.ref l] []) rfl]
  have h1 := F.called_set.notType
  have h2 := F.called_set.canCreate
  have hct := F.typeCall_set_1 (.ref l)
  repeat (any_goals (first | assumption | wp_step))
  generalize hN : ({ cls := .type "set", dict := none, data := .set #[] 0 (.fresh 0 0 (!(byT w))) } : Obj) = oN
  have hNS : StrSet w oN [] := by rw [← hN]; exact strSet_new
  have hNc : oN.cls = .type "set" := by rw [← hN]
  have hNf : oN.isFreed = false := by rw [← hN]; rfl
  refine codeAny_mono (set_new (.ref l) (E := E) (Q₁ := fun obj s₁ => obj = .ref s.heap.objs.size ∧ s₁ = { s with heap := s.heap.push oN }) ⟨rfl, by rw [← hN]⟩) fun r s₁ hr => ?_
  cases r with
  | error e => exact hr
  | ok fl =>
    cases fl with
    | ret obj =>
      obtain ⟨rfl, rfl⟩ := hr
      have hS : (s.heap.push oN).get? s.heap.objs.size = some oN := Heap.get?_push_size _ hNf
      have hT : Shared.TypeIs { s with heap := s.heap.push oN } (.ref s.heap.objs.size) "set" := ⟨_, hS, hNc⟩
      have hli := F.called_set.init.lookup
      have hbi := F.called_set.init.bind (.ref s.heap.objs.size)
      repeat (any_goals (first | assumption | wp_step))
      refine codeAny_mono (codeAny_call_builtin (R := wants (fun r s₂ => r = .none ∧ ∃ h' tk, s₂ = { s with heap := h', toks := tk } ∧ StrSetAt w h' s.heap.objs.size ms ∧
          (∀ b o, b < s.heap.objs.size → s.heap.get? b = some o → h'.get? b = some o)) E) F.called_set.init.plain F.entry_set_init (check_set_init_1 hT ?_)) fun r₂ s₂ hr₂ => ?_
      · obtain ⟨ol, hol, hcl, nl, hdl⟩ := hl
        obtain ⟨ocls, odict, odata, oslots⟩ := ol
        simp only at hcl hdl
        subst hcl; subst hdl
        have hol' : (s.heap.push oN).get? l = some { cls := .type "list", dict := odict, data := .seq vs.toArray nl, slots := oslots } := Heap.get?_push_of_some _ hol
        have hsls := F.sub_list_set
        have hslf := F.sub_list_frozenset
        have hne : (Value.type "list" == Value.type "dict") = false := by decide
        have hl1 : (s.heap.push oN).IsList l vs.toArray := ⟨_, hol', rfl, nl, rfl⟩
        subst hN
        unfold Builtin.«set.__init__» noKeywords Builtin.Frozenset.updateFrom
        generalize hPI : pyIter = PI
        wp_walk
        subst hPI
        refine wpAny_pyIter_list hl1 ?_
        refine wpAny_bind (wpAny_runValue ?_)
        have hlS : l < s.heap.objs.size := Heap.lt_size hol
        have hh3 : A.in1.in1.in1.handled = none := by simp [hh]
        have hsz : (s.heap.push { cls := .type "set", dict := none, data := .set #[] 0 (.fresh 0 0 (!(byT w))) }).objs.size = s.heap.objs.size + 1 := Heap.size_push ..
        refine upd_loop (vs := vs) hh3 (by rw [hsz]; exact Nat.ne_of_lt (Nat.lt_succ_of_lt hlS)) s.heap.objs.size (by rw [hsz]; exact Nat.ne_of_lt (Nat.lt_succ_self _)) (Nat.ne_of_gt hlS) vs.length 0 vs _ ms [] (Nat.sub_zero _) (Nat.zero_le _) rfl hi hnd hb ⟨_, Heap.get?_push_size _ rfl, rfl, rfl⟩ (hl1.push _) ⟨_, Heap.get?_push_of_some _ hS, hNS⟩ fun h' tk hk' hS' => ?_
        show wpAny _ _ _ _ _ _
        refine wpAny_pure ?_
        show wpAny _ _ (ret Value.none) _ _ _
        refine wpAny_pure ⟨rfl, h', tk, rfl, hS', fun b o hb e => hk' b o (Nat.ne_of_lt hb) (by rw [hsz]; exact Nat.ne_of_lt (Nat.lt_succ_of_lt hb)) (Heap.get?_push_of_some _ (Heap.get?_push_of_some _ e))⟩
      · cases r₂ with
        | error e => exact hr₂
        | ok fl₂ =>
          cases fl₂ with
          | ret r =>
            obtain ⟨rfl, h', tk, rfl, hS', hk'⟩ := hr₂
            repeat (any_goals (first | assumption | wp_step))
            exact h _ _ hS' hk'
          | _ => exact hr₂.elim
    | _ => exact hr.elim
end
end
section
open PySem.Builtin PySem.Builtin.Frozenset
theorem entry_si : entryFor table "set.__iter__" = some Builtin.«frozenset.__iter__» :=
  entryFor_alias (id' := "frozenset.__iter__") (by kernel_rfl) (by first | rfl | decide +kernel | (unfold String.splitOn; simp +decide [String.splitOnAux])) (by decide +kernel) (by kernel_rfl)
theorem args_si (a : Value) : argsOk "set.__iter__" ⟨[a], []⟩ := by
  unfold argsOk
  kernel_rfl
theorem slot_sn : Slot "set_iterator" "__next__" "set_iterator.__next__" :=
  .of (owner := "set_iterator") (n := "__next__") (by rw [typeLookup_type, builtinLookup_eq_fast]; kernel_rfl) (by decide +kernel) (by decide +kernel) (by decide +kernel)
    (by first | exact .inl (by decide +kernel) | exact .inr (by decide +kernel)) (by rw [isSubtype_type]; kernel_rfl)
theorem slot_sni : Slot "set_iterator" "__iter__" "set_iterator.__iter__" :=
  .of (owner := "set_iterator") (n := "__iter__") (by rw [typeLookup_type, builtinLookup_eq_fast]; kernel_rfl) (by decide +kernel) (by decide +kernel) (by decide +kernel)
    (by first | exact .inl (by decide +kernel) | exact .inr (by decide +kernel)) (by rw [isSubtype_type]; kernel_rfl)
theorem entry_sn : entryFor table "set_iterator.__next__" = some Builtin.«set_iterator.__next__» := entryFor_of_tree (by kernel_rfl)
theorem entry_sni : entryFor table "set_iterator.__iter__" = some Builtin.«dict_keyiterator.__iter__» :=
  entryFor_alias (id' := "dict_keyiterator.__iter__") (by kernel_rfl) (by first | rfl | decide +kernel | (unfold String.splitOn; simp +decide [String.splitOnAux])) (by decide +kernel) (by kernel_rfl)
theorem args_sn (a : Value) : argsOk "set_iterator.__next__" ⟨[a], []⟩ := by
  unfold argsOk
  kernel_rfl
theorem args_sni (a : Value) : argsOk "set_iterator.__iter__" ⟨[a], []⟩ := by
  unfold argsOk
  kernel_rfl
end
section
open PySem.Builtin PySem.Builtin.Frozenset
section
section V
variable {w : World} {A : Around} {E : Value → Shared → Prop} {s : Shared} {env : Env} {h₀ : Heap} {body : List Stmt} {Q : Flow → Shared → Prop}
theorem perm_erase {α : Type} : ∀ (xs : List α) (i : Nat) (h : i < xs.length), List.Perm (xs[i] :: xs.eraseIdx i) xs
  | x :: xs, 0, _ => .refl _
  | x :: xs, i + 1, h => by
    have h' : i < xs.length := Nat.lt_of_succ_lt_succ h
    show List.Perm (xs[i] :: x :: xs.eraseIdx i) (x :: xs)
    exact (List.Perm.swap _ _ _).trans (.cons _ (perm_erase xs i h'))
theorem choose_any {M : Model} {src : Source} {n : Nat} {Q : Nat → Shared → Prop} (hn : n ≠ 0) (h : ∀ i d, i < n → Q i { s with drawn := d }) : wpAny M A (choose src n) Q E s := by
  intro Γ p hΓ
  show n ≠ 0 ∧ _
  exact ⟨hn, h _ _ (Nat.mod_lt _ (Nat.pos_of_ne_zero hn))⟩
theorem drawOrder_any {α : Type} {M : Model} : ∀ (n : Nat) (xs : List α) (s : Shared) (Q : List α → Shared → Prop), n = xs.length → (∀ ys d, List.Perm ys xs → Q ys { s with drawn := d }) → wpAny M A (drawOrder n xs) Q E s
  | 0, xs, s, Q, hn, h => by
    have : xs = [] := List.eq_nil_of_length_eq_zero hn.symm
    subst this
    exact wpAny_pure (h [] s.drawn .nil)
  | n + 1, [], s, Q, hn, h => by cases hn
  | n + 1, x :: xs, s, Q, hn, h => by
    unfold drawOrder
    refine wpAny_bind (choose_any (by simp) fun i d hi => ?_)
    rw [List.getElem?_eq_getElem hi]
    dsimp only
    refine wpAny_bind (drawOrder_any n _ _ _ (by rw [List.length_eraseIdx_of_lt hi]; simp only [List.length_cons] at hn ⊢; omega) fun ys d' hp => wpAny_pure ?_)
    exact h _ d' ((List.Perm.cons _ hp).trans (perm_erase _ i hi))
end V
namespace Hsearch_walks
noncomputable def Pre (w : World) (A : Around) (E : Value → Shared → Prop) (s : Shared) (env : Env) (h₀ : Heap) (body : List Stmt) (Q : Flow → Shared → Prop) (x : Str) (px : Pos) (I : Addr) (need : List (Addr × Obj)) (news : List (Addr × Obj)) (q : List Value) (St : Nat → Heap → Prop) (ms : List Str) (m₀ : Str → Option Value) (Pm : Str → Prop) : Prop :=
  (Walks P w A I (I :: need.map (·.1)) [I] q.length (fun i v => q[i]? = some v) St) → (∀ i h, St i h → ∃ o, h.get? I = some o) → (∀ i h h' o, St i h → h.get? I = some o → h'.get? I = some o → (∀ p ∈ need, h'.get? p.1 = some p.2) → St i h') → (∀ (i : Nat) (v : Value), q[i]? = some v → ∃ y u, v = Value.str y u ∧ y ∈ ms) → (∀ y ∈ ms, ∃ (i : Nat) (u : Tok), q[i]? = some (Value.str y u)) → (∀ p ∈ need, p ∈ news) → (St 0 s.heap) → (∀ p ∈ news, p.1 ≠ I) → (env.locals ≠ I) → (h₀.get? I = none) → (env.kindOf x = some .local) → ((env.scope.kind == .class || (env.scope.kind == .module && env.locals != env.globals)) = false) → (Fr h₀ env.locals s.heap m₀) → (News h₀ env.locals s.heap news) → (∀ y t it h tk, y ∈ ms → Fr h₀ env.locals h (fun z => if z = x then some (.str y t) else m₀ z) → News h₀ env.locals h ((I, it) :: news) →
      wpAny (model P w) A (execs body env) (SearchPost h₀ env.locals x [] m₀ ((I, it) :: news) (Pm y) { s with heap := h, toks := tk } Q) E { s with heap := h, toks := tk }) → (∀ (u : Option Value) h tk, (∀ y ∈ ms, Pm y) → Fr h₀ env.locals h (fun z => if z = x then u else m₀ z) → News h₀ env.locals h news → Q .next { s with heap := h, toks := tk }) → (PassesOwn (model P w) A env E) → codeAny (model P w) A (.forLoop (.Name x px) (.ref I) body [] env) (fun r s' => match r with | .ok f => Q f s' | .error e => cameBackBy (model P w) A env E e s') s
noncomputable abbrev Dat : Type := World × Around × (Value → Shared → Prop) × Shared × Env × Heap × (List Stmt) × (Flow → Shared → Prop) × Str × Pos × Addr × (List (Addr × Obj)) × (List (Addr × Obj)) × (List Value) × (Nat → Heap → Prop) × (List Str) × (Str → Option Value) × (Str → Prop)
noncomputable def d₀ : Dat := (wd, ⟨none, 0, none, none, 1⟩, (fun _ _ => True), ⟨{}, #[], {}, 1, {}⟩, default, {}, [], (fun _ _ => True), (Str.ofString ""), default, (0 : Nat), [], [], [], (fun _ _ => True), [], (fun _ => none), (fun _ => True))
@[irreducible] noncomputable def z₀ : Dat := eps d₀ fun z => ¬ Pre z.1 z.2.1 z.2.2.1 z.2.2.2.1 z.2.2.2.2.1 z.2.2.2.2.2.1 z.2.2.2.2.2.2.1 z.2.2.2.2.2.2.2.1 z.2.2.2.2.2.2.2.2.1 z.2.2.2.2.2.2.2.2.2.1 z.2.2.2.2.2.2.2.2.2.2.1 z.2.2.2.2.2.2.2.2.2.2.2.1 z.2.2.2.2.2.2.2.2.2.2.2.2.1 z.2.2.2.2.2.2.2.2.2.2.2.2.2.1 z.2.2.2.2.2.2.2.2.2.2.2.2.2.2.1 z.2.2.2.2.2.2.2.2.2.2.2.2.2.2.2.1 z.2.2.2.2.2.2.2.2.2.2.2.2.2.2.2.2.1 z.2.2.2.2.2.2.2.2.2.2.2.2.2.2.2.2.2
@[irreducible] noncomputable def w : World := z₀.1
@[irreducible] noncomputable def A : Around := z₀.2.1
@[irreducible] noncomputable def E : Value → Shared → Prop := z₀.2.2.1
@[irreducible] noncomputable def s : Shared := z₀.2.2.2.1
@[irreducible] noncomputable def env : Env := z₀.2.2.2.2.1
@[irreducible] noncomputable def h₀ : Heap := z₀.2.2.2.2.2.1
@[irreducible] noncomputable def body : List Stmt := z₀.2.2.2.2.2.2.1
@[irreducible] noncomputable def Q : Flow → Shared → Prop := z₀.2.2.2.2.2.2.2.1
@[irreducible] noncomputable def x : Str := z₀.2.2.2.2.2.2.2.2.1
@[irreducible] noncomputable def px : Pos := z₀.2.2.2.2.2.2.2.2.2.1
@[irreducible] noncomputable def I : Addr := z₀.2.2.2.2.2.2.2.2.2.2.1
@[irreducible] noncomputable def need : List (Addr × Obj) := z₀.2.2.2.2.2.2.2.2.2.2.2.1
@[irreducible] noncomputable def news : List (Addr × Obj) := z₀.2.2.2.2.2.2.2.2.2.2.2.2.1
@[irreducible] noncomputable def q : List Value := z₀.2.2.2.2.2.2.2.2.2.2.2.2.2.1
@[irreducible] noncomputable def St : Nat → Heap → Prop := z₀.2.2.2.2.2.2.2.2.2.2.2.2.2.2.1
@[irreducible] noncomputable def ms : List Str := z₀.2.2.2.2.2.2.2.2.2.2.2.2.2.2.2.1
@[irreducible] noncomputable def m₀ : Str → Option Value := z₀.2.2.2.2.2.2.2.2.2.2.2.2.2.2.2.2.1
@[irreducible] noncomputable def Pm : Str → Prop := z₀.2.2.2.2.2.2.2.2.2.2.2.2.2.2.2.2.2
theorem main : Pre w A E s env h₀ body Q x px I need news q St ms m₀ Pm := by
  intro W hlive hhold hq hall hneed hst hI hLI hI₀ hx hp F N turn done hE
  have eqm : ∀ {m' : Str → Option Value}, (∀ z, z ≠ x → m' z = m₀ z) → ∀ v : Option Value, (fun z => if z = x then v else m' z) = fun z => if z = x then v else m₀ z := by
    intro m' hz v
    funext z
    by_cases e : z = x
    · simp [e]
    · simp only [if_neg e]; exact hz z e
  refine codeAny_forLoop_any (R := fun r s' => match r with | .ok f => Q f s' | .error e => cameBackBy (model P w) A env E e s')
    (fun k s' => ∃ h' tk m', ∃ i : Nat, s' = { s with heap := h', toks := tk } ∧ St i h' ∧ Fr h₀ env.locals h' m' ∧ News h₀ env.locals h' news ∧ (∀ z, z ≠ x → m' z = m₀ z) ∧ (∀ (j : Nat), j < i → ∀ (y : Str) (u : Tok), q[j]? = some (Value.str y u) → Pm y) ∧ i ≤ q.length ∧ k = q.length + 1 - i)
    ?_ (q.length + 1) ⟨_, s.toks, m₀, 0, rfl, hst, F, N, fun _ _ => rfl, fun j hj => absurd hj (Nat.not_lt_zero _), Nat.zero_le _, rfl⟩
  rintro k s' ⟨h', tk, m', i, rfl, hst', F', N', hm', hP, hi, rfl⟩
  have up : ∀ h₁ : Heap, (∀ b o, b ∉ [I] → h'.get? b = some o → h₁.get? b = some o) → Fr h₀ env.locals h₁ m' ∧ News h₀ env.locals h₁ news := fun h₁ hk =>
    ⟨⟨F'.ns.at' fun o e => hk _ o (by simpa using hLI) e, fun b o e => hk b o (fun hm => by rw [List.mem_singleton.mp hm, hI₀] at e; cases e) (F'.keep b o e), F'.above⟩, fun p hp => ⟨hk _ _ (by simpa using hI p hp) (N' p hp).1, (N' p hp).2⟩⟩
  by_cases hlt : i < q.length
  · refine W.item i _ _ _ hlt hst' fun v h₁ tk₁ hv hst₁ hk₁ => ?_
    obtain ⟨y, u, rfl, hy⟩ := hq i v hv
    show wpAny _ _ _ _ _ _
    refine wpAny_pure ?_
    obtain ⟨F₁, N₁⟩ := up h₁ hk₁
    refine wpAny_assign_Name (wpAny_storeName_local hx F₁.ns (fun h₂ hn₂ hs₂ => ?_) hp)
    have F₂ := F₁.set hn₂ hs₂
    have N₂ := N₁.set hs₂
    rw [eqm hm' (some (.str y u))] at F₂
    obtain ⟨it, hit⟩ := hlive _ _ hst₁
    have hit₂ : h₂.get? I = some it := hs₂.extBut _ _ (Ne.symm hLI) hit
    have N₃ : News h₀ env.locals h₂ ((I, it) :: news) := fun p hp => by
      rcases List.mem_cons.mp hp with rfl | hp
      · exact ⟨hit₂, Ne.symm hLI, hI₀⟩
      · exact N₂ p hp
    refine wpAny_passesOwn hE (wpAny_mono (turn y u it h₂ _ hy F₂ N₃) (fun f s₃ p => ?_) fun _ _ e => e)
    have fin : (∃ h'' tk' m'' nw, s₃ = { ({ s with heap := h₂, toks := tk₁ + 1 } : Shared) with heap := h'', toks := tk' } ∧ Fr h₀ env.locals h'' m'' ∧ News h₀ env.locals h'' nw ∧ (∀ p ∈ (I, it) :: news, p ∈ nw) ∧ Pm y ∧ ∀ z, z ≠ x → ([] : List Str).contains z = false → m'' z = m₀ z) →
        ∃ mm, mm < q.length + 1 - i ∧ ∃ h' tk m', ∃ i' : Nat, s₃ = { s with heap := h', toks := tk } ∧ St i' h' ∧ Fr h₀ env.locals h' m' ∧ News h₀ env.locals h' news ∧ (∀ z, z ≠ x → m' z = m₀ z) ∧ (∀ (j : Nat), j < i' → ∀ (y : Str) (u : Tok), q[j]? = some (Value.str y u) → Pm y) ∧ i' ≤ q.length ∧ mm = q.length + 1 - i' := by
      rintro ⟨h'', tk', m'', nw, rfl, F₄, N₄, hsub, hPy, hz⟩
      refine ⟨q.length + 1 - (i + 1), by omega, h'', tk', m'', i + 1, rfl, hhold _ _ _ _ hst₁ hit (N₄ _ (hsub _ (.head _))).1 (fun p hp => (N₄ _ (hsub _ (.tail _ (hneed p hp)))).1), F₄, fun p hp => N₄ p (hsub p (.tail _ hp)), fun z hz' => hz z hz' rfl, fun j hj y' u' hj' => ?_, hlt, rfl⟩
      rcases Nat.lt_succ_iff_lt_or_eq.mp hj with hj | rfl
      · exact hP j hj y' u' hj'
      · rw [hv] at hj'; cases hj'; exact hPy
    cases f with
    | ret v => exact p
    | brk => exact p
    | next => exact fin p
    | cont => exact fin p
  · obtain rfl : i = q.length := Nat.le_antisymm hi (Nat.not_lt.mp hlt)
    refine W.done _ _ _ hst' fun h₂ tk₂ hk₂ => wpAny_execs_nil ?_
    obtain ⟨F₂, N₂⟩ := up h₂ hk₂
    have e : m' = fun z => if z = x then m' x else m₀ z := by
      rw [← eqm hm' (m' x)]; funext z; by_cases q : z = x <;> simp [q]
    rw [e] at F₂
    refine done (m' x) h₂ tk₂ (fun y hy => ?_) F₂ N₂
    obtain ⟨j, u, hj⟩ := hall y hy
    exact hP j (by
      by_cases c : j < q.length
      · exact c
      · rw [List.getElem?_eq_none (Nat.not_lt.mp c)] at hj; cases hj) y u hj
end Hsearch_walks
section V
variable {w : World} {A : Around} {E : Value → Shared → Prop} {s : Shared} {env : Env} {h₀ : Heap} {body : List Stmt} {Q : Flow → Shared → Prop}
theorem search_walks {x : Str} {px : Pos} {I : Addr} {need news : List (Addr × Obj)} {q : List Value} {St : Nat → Heap → Prop} {ms : List Str} {m₀ : Str → Option Value} (Pm : Str → Prop) (W : Walks P w A I (I :: need.map (·.1)) [I] q.length (fun i v => q[i]? = some v) St)
    (hlive : ∀ i h, St i h → ∃ o, h.get? I = some o) (hhold : ∀ i h h' o, St i h → h.get? I = some o → h'.get? I = some o → (∀ p ∈ need, h'.get? p.1 = some p.2) → St i h')
    (hq : ∀ (i : Nat) (v : Value), q[i]? = some v → ∃ y u, v = Value.str y u ∧ y ∈ ms) (hall : ∀ y ∈ ms, ∃ (i : Nat) (u : Tok), q[i]? = some (Value.str y u)) (hneed : ∀ p ∈ need, p ∈ news) (hst : St 0 s.heap)
    (hI : ∀ p ∈ news, p.1 ≠ I) (hLI : env.locals ≠ I) (hI₀ : h₀.get? I = none) (hx : env.kindOf x = some .local)
    (hp : (env.scope.kind == .class || (env.scope.kind == .module && env.locals != env.globals)) = false) (F : Fr h₀ env.locals s.heap m₀) (N : News h₀ env.locals s.heap news)
    (turn : ∀ y t it h tk, y ∈ ms → Fr h₀ env.locals h (fun z => if z = x then some (.str y t) else m₀ z) → News h₀ env.locals h ((I, it) :: news) →
      wpAny (model P w) A (execs body env) (SearchPost h₀ env.locals x [] m₀ ((I, it) :: news) (Pm y) { s with heap := h, toks := tk } Q) E { s with heap := h, toks := tk })
    (done : ∀ (u : Option Value) h tk, (∀ y ∈ ms, Pm y) → Fr h₀ env.locals h (fun z => if z = x then u else m₀ z) → News h₀ env.locals h news → Q .next { s with heap := h, toks := tk })
    (hE : PassesOwn (model P w) A env E := by passes_own) :
    codeAny (model P w) A (.forLoop (.Name x px) (.ref I) body [] env) (fun r s' => match r with | .ok f => Q f s' | .error e => cameBackBy (model P w) A env E e s') s :=
  eps_allz (z := Hsearch_walks.z₀) (P := fun z : Hsearch_walks.Dat => Hsearch_walks.Pre z.1 z.2.1 z.2.2.1 z.2.2.2.1 z.2.2.2.2.1 z.2.2.2.2.2.1 z.2.2.2.2.2.2.1 z.2.2.2.2.2.2.2.1 z.2.2.2.2.2.2.2.2.1 z.2.2.2.2.2.2.2.2.2.1 z.2.2.2.2.2.2.2.2.2.2.1 z.2.2.2.2.2.2.2.2.2.2.2.1 z.2.2.2.2.2.2.2.2.2.2.2.2.1 z.2.2.2.2.2.2.2.2.2.2.2.2.2.1 z.2.2.2.2.2.2.2.2.2.2.2.2.2.2.1 z.2.2.2.2.2.2.2.2.2.2.2.2.2.2.2.1 z.2.2.2.2.2.2.2.2.2.2.2.2.2.2.2.2.1 z.2.2.2.2.2.2.2.2.2.2.2.2.2.2.2.2.2) (by delta Hsearch_walks.z₀; exact rfl) (by with_unfolding_all exact Hsearch_walks.main) (w, A, E, s, env, h₀, body, Q, x, px, I, need, news, q, St, ms, m₀, Pm) W hlive hhold hq hall hneed hst hI hLI hI₀ hx hp F N turn done hE
end V
end
end
section
open PySem.Builtin PySem.Builtin.Frozenset
/-- a set's object as the walks along it want it -/
structure SetD (w : World) (o : Obj) (es : Array (Int × Value)) (ep : Nat) (t : SetTable) : Prop where
  cls : o.cls = .type "set"
  data : o.data = .set es ep t
  fits : t.fits es.size = true
  led : es.size ≠ 0 → t.led = !(byT w)
  plain : es.size ≠ 0 → t.plain = false
  small : es.size ≤ 64
noncomputable def siObj (first : Value) (i : Nat) (sa n ep : Nat) : Obj := { cls := .type "set_iterator", data := .fields #[first, .int i 0, .ref sa, .int n 0, .int ep 0] }
theorem below0 (pl : Array Nat) (h : pl.size = 1) : SetTable.below pl 0 = 0 ∧ ∃ p, pl[0]? = some p ∧ SetTable.below pl (p + 1) = 1 := by
  obtain ⟨l⟩ := pl
  match l, h with
  | [p], _ => exact ⟨by simp [SetTable.below, SetTable.below.go], p, rfl, by simp [SetTable.below, SetTable.below.go]⟩
theorem below00 (t : SetTable) (h : t.fits 0 = true) : SetTable.below t.place 0 = 0 := by
  simp only [SetTable.fits, Bool.and_eq_true, beq_iff_eq] at h
  simp [SetTable.below, SetTable.below.go, h.1]
section
variable {w : World} {A : Around} {E : Value → Shared → Prop} {s : Shared}
/-- a walk in an order that was drawn -/
theorem dr_item {I sa T : Addr} {i ep : Nat} {es : Array (Int × Value)} {t : SetTable} {so oT : Obj} {places : List Nat} {x : Value} {j : Nat} {nt : Nat} {Q : Option Value → Shared → Prop} (ho : s.heap.get? I = some (siObj (.ref T) i sa es.size ep)) (hso : s.heap.get? sa = some so) (D : SetD w so es ep t)
    (hT : s.heap.get? T = some oT) (hTd : oT.data = .seq (places.map fun (i : Nat) => rawInt i).toArray nt) (hp : places[i]? = some j) {hv : Int} (hx : es[j]? = some (hv, x))
    (h : ∀ h', h'.get? I = some (siObj (.ref T) (i + 1) sa es.size ep) → Heap.SameBut I s.heap h' → Q (some x) { s with heap := h' }) : wpAny (model P w) A (pyNext (.ref I)) Q E s := by
  have hTy : s.TypeIs (.ref I) "set_iterator" := ⟨_, ho, rfl⟩
  unfold pyNext
  refine wpAny_bind (wpAny_attempt (wpAny_callSpecial?_slot (name := Str.ofString "__next__") hTy slot_sn (wpAny_call_entry slot_sn hTy entry_sn ?_ (args_sn _))))
  unfold Builtin.«set_iterator.__next__»
  refine wpAny_bind (wpAny_of_eq (a := (.ref I, [])) (by first | rfl | kernel_rfl) ?_)
  refine wpAny_bind (wpAny_fieldsOf ho rfl ?_)
  dsimp only
  refine wpAny_bind (wpAny_setEntries_of hso D.data D.fits ?_)
  refine KFB.if_not (by simp) ?_
  have hpv : (places.map fun (i : Nat) => rawInt i).toArray[((i : Int)).toNat]? = some (.int j 0) := by simp [hp, rawInt]
  refine wpAny_bind (wpAny_seqItems hT hTd ?_)
  dsimp only
  rw [hpv]
  dsimp only
  unfold setNextDrawn
  refine wpAny_bind (wpAny_bind (wpAny_setState_of hso D.data D.fits ?_))
  dsimp only
  refine KFB.if_not (by simp) ?_
  simp only [Int.toNat_natCast, hx]
  refine wpAny_pure ?_
  refine wpAny_bind (wpAny_setField ho rfl (by simp) ?_)
  refine wpAny_pure ⟨x, rfl, wpAny_pure (h _ ?_ (Heap.SameBut.update ..))⟩
  rw [Heap.get?_update_self _ ho (Obj.isFreed_of_fields (Obj.data_mapFields rfl _))]
  rfl
theorem stop_end {Q : Option Value → Shared → Prop} {s₁ : Shared} (hh : A.handled = none) (h : ∀ h', (∀ b o, s₁.heap.get? b = some o → h'.get? b = some o) → Q none { s₁ with heap := h' }) :
    wpAny (model P w) A.in1 (do raiseNew (← newExc (.type "StopIteration") [])) (fun (fin : PySem.Fin) s' => ∃ v, fin = PySem.Fin.done (.ret v) ∧ wpAny (model P w) A (pure (some v)) Q E s') (fun e s' => wpAny (model P w) A (do if ← isInstance e (.type "StopIteration") then pure none else throw e) Q E s') s₁ := by
  show wpAny _ _ (newExc (.type "StopIteration") [] >>= _) _ _ _
  refine wpAny_bind ?_
  simp only [newExc, newTuple]
  refine wpAny_bind (wpAny_newObj_type ?_ (by size_fits))
  refine wpAny_bind (m := firstArgMember _ _) (wpAny_of_eq (a := Value.none) (by first | rfl | (simp only [firstArgMember]; rfl)) ?_)
  refine wpAny_newObj_type ?_ (by size_fits)
  simp only [raiseNew]
  refine wpAny_bind (wpAny_handled ?_)
  first | rw [show A.in1.handled = none from hh] | rw [hh]
  refine wpAny_bind (wpAny_pure (wpAny_throw ?_))
  refine wpAny_bind (wpAny_isInstance (T := "StopIteration") (b := true) ⟨_, Heap.get?_push_size _ rfl, rfl⟩ isSubtype_stop ?_)
  exact wpAny_pure (h _ fun b o e => Heap.get?_push_of_some _ (Heap.get?_push_of_some _ e))
theorem dr_end {I sa T : Addr} {i ep : Nat} {es : Array (Int × Value)} {t : SetTable} {so oT : Obj} {places : List Nat} {nt : Nat} {Q : Option Value → Shared → Prop} (hh : A.handled = none) (ho : s.heap.get? I = some (siObj (.ref T) i sa es.size ep)) (hso : s.heap.get? sa = some so) (D : SetD w so es ep t)
    (hT : s.heap.get? T = some oT) (hTd : oT.data = .seq (places.map fun (i : Nat) => rawInt i).toArray nt) (hp : places[i]? = none)
    (h : ∀ h', Heap.ExtBut I s.heap h' → Q none { s with heap := h' }) : wpAny (model P w) A (pyNext (.ref I)) Q E s := by
  have hTy : s.TypeIs (.ref I) "set_iterator" := ⟨_, ho, rfl⟩
  unfold pyNext
  refine wpAny_bind (wpAny_attempt (wpAny_callSpecial?_slot (name := Str.ofString "__next__") hTy slot_sn (wpAny_call_entry slot_sn hTy entry_sn ?_ (args_sn _))))
  unfold Builtin.«set_iterator.__next__»
  refine wpAny_bind (wpAny_of_eq (a := (.ref I, [])) (by first | rfl | kernel_rfl) ?_)
  refine wpAny_bind (wpAny_fieldsOf ho rfl ?_)
  dsimp only
  refine wpAny_bind (wpAny_setEntries_of hso D.data D.fits ?_)
  refine KFB.if_not (by simp) ?_
  have hpv : (places.map fun (i : Nat) => rawInt i).toArray[((i : Int)).toNat]? = none := by simpa using hp
  refine wpAny_bind (wpAny_seqItems hT hTd ?_)
  dsimp only
  rw [hpv]
  dsimp only
  refine wpAny_bind (wpAny_setField ho rfl (by simp) ?_)
  have ho2 := Heap.get?_update_self (Obj.mapFields (·.setIfInBounds 0 (rawInt 0))) ho (Obj.isFreed_of_fields (Obj.data_mapFields rfl _))
  refine wpAny_bind (wpAny_setField ho2 (Obj.data_mapFields rfl _) (by simp) ?_)
  exact stop_end hh fun h' hk => h h' fun b o hb e => hk b o (((Heap.SameBut.update s.heap I _).trans (Heap.SameBut.update _ I _)).extBut b o hb e)
/-- the set's values in the order of the text -/
noncomputable abbrev txtOrd (w : World) (sa ep : Nat) (es : Array (Int × Value)) : Array (Int × Value) := pickOrder (w.params.setOrder sa ep) es
theorem tx_item {I sa : Addr} {slot i ep : Nat} {es : Array (Int × Value)} {t : SetTable} {so : Obj} {x : Value} {hv : Int} {Q : Option Value → Shared → Prop} (hb : byT w = true) (ho : s.heap.get? I = some (siObj (.int slot 0) i sa es.size ep)) (hso : s.heap.get? sa = some so) (D : SetD w so es ep t)
    (hx : (txtOrd w sa ep es)[i]? = some (hv, x)) (h : ∀ h', h'.get? I = some (siObj (.int slot 0) (i + 1) sa es.size ep) → Heap.SameBut I s.heap h' → Q (some x) { s with heap := h' }) : wpAny (model P w) A (pyNext (.ref I)) Q E s := by
  have hTy : s.TypeIs (.ref I) "set_iterator" := ⟨_, ho, rfl⟩
  unfold pyNext
  refine wpAny_bind (wpAny_attempt (wpAny_callSpecial?_slot (name := Str.ofString "__next__") hTy slot_sn (wpAny_call_entry slot_sn hTy entry_sn ?_ (args_sn _))))
  unfold Builtin.«set_iterator.__next__»
  refine wpAny_bind (wpAny_of_eq (a := (.ref I, [])) (by first | rfl | kernel_rfl) ?_)
  refine wpAny_bind (wpAny_fieldsOf ho rfl ?_)
  dsimp only
  refine wpAny_bind (wpAny_setEntries_of hso D.data D.fits ?_)
  refine KFB.if_not (by simp) ?_
  unfold setNext setsByText
  refine wpAny_bind (wpAny_bind (wpAny_setState_of hso D.data D.fits ?_))
  dsimp only
  refine wpAny_bind (wpAny_bind (wpAny_askSetting (wpAny_pure ?_)))
  refine KFB.if_so hb ?_
  refine KFB.if_not (by simp) ?_
  unfold setWalk setsByText
  refine wpAny_bind (wpAny_bind (wpAny_setState_of hso D.data D.fits ?_))
  dsimp only
  refine wpAny_bind (wpAny_bind (wpAny_askSetting (wpAny_pure ?_)))
  refine KFB.if_so hb ?_
  refine wpAny_bind (wpAny_askSetting ?_)
  refine wpAny_pure ?_
  simp only [Int.toNat_natCast]
  refine wpAny_pure ?_
  rw [show (pickOrder ((model P w).w.params.setOrder sa ep) es)[i]? = _ from hx]
  dsimp only [Option.map]
  refine wpAny_bind (wpAny_setField ho rfl (by simp) ?_)
  have ho2 := Heap.get?_update_self (Obj.mapFields (·.setIfInBounds 0 (rawInt (slot : Int)))) ho (Obj.isFreed_of_fields (Obj.data_mapFields rfl _))
  refine wpAny_bind (wpAny_setField ho2 (Obj.data_mapFields rfl _) (by simp) ?_)
  refine wpAny_pure ⟨x, rfl, wpAny_pure (h _ ?_ ((Heap.SameBut.update s.heap I _).trans (Heap.SameBut.update _ I _)))⟩
  rw [Heap.get?_update_self _ ho2 (Obj.isFreed_of_fields (Obj.data_mapFields (Obj.data_mapFields rfl _) _))]
  rfl
theorem tx_end {I sa : Addr} {slot i ep : Nat} {es : Array (Int × Value)} {t : SetTable} {so : Obj} {Q : Option Value → Shared → Prop} (hh : A.handled = none) (hb : byT w = true) (ho : s.heap.get? I = some (siObj (.int slot 0) i sa es.size ep)) (hso : s.heap.get? sa = some so) (D : SetD w so es ep t)
    (hx : (txtOrd w sa ep es)[i]? = none) (h : ∀ h', Heap.ExtBut I s.heap h' → Q none { s with heap := h' }) : wpAny (model P w) A (pyNext (.ref I)) Q E s := by
  have hTy : s.TypeIs (.ref I) "set_iterator" := ⟨_, ho, rfl⟩
  unfold pyNext
  refine wpAny_bind (wpAny_attempt (wpAny_callSpecial?_slot (name := Str.ofString "__next__") hTy slot_sn (wpAny_call_entry slot_sn hTy entry_sn ?_ (args_sn _))))
  unfold Builtin.«set_iterator.__next__»
  refine wpAny_bind (wpAny_of_eq (a := (.ref I, [])) (by first | rfl | kernel_rfl) ?_)
  refine wpAny_bind (wpAny_fieldsOf ho rfl ?_)
  dsimp only
  refine wpAny_bind (wpAny_setEntries_of hso D.data D.fits ?_)
  refine KFB.if_not (by simp) ?_
  unfold setNext setsByText
  refine wpAny_bind (wpAny_bind (wpAny_setState_of hso D.data D.fits ?_))
  dsimp only
  refine wpAny_bind (wpAny_bind (wpAny_askSetting (wpAny_pure ?_)))
  refine KFB.if_so hb ?_
  refine KFB.if_not (by simp) ?_
  unfold setWalk setsByText
  refine wpAny_bind (wpAny_bind (wpAny_setState_of hso D.data D.fits ?_))
  dsimp only
  refine wpAny_bind (wpAny_bind (wpAny_askSetting (wpAny_pure ?_)))
  refine KFB.if_so hb ?_
  refine wpAny_bind (wpAny_askSetting ?_)
  refine wpAny_pure ?_
  simp only [Int.toNat_natCast]
  refine wpAny_pure ?_
  rw [show (pickOrder ((model P w).w.params.setOrder sa ep) es)[i]? = _ from hx]
  dsimp only [Option.map]
  refine wpAny_bind (wpAny_setField ho rfl (by simp) ?_)
  exact stop_end hh fun h' hk => h h' fun b o hb e => hk b o ((Heap.SameBut.update s.heap I _).extBut b o hb e)
/-- a walk along a set of one or none, in the order of the places -/
theorem sm_item {I sa : Addr} {ep : Nat} {es : Array (Int × Value)} {t : SetTable} {so : Obj} {x : Value} {hv : Int} {Q : Option Value → Shared → Prop} (hb : byT w = false) (hn : es.size = 1) (ho : s.heap.get? I = some (siObj (.int ((0 : Nat) : Int) 0) 0 sa es.size ep)) (hso : s.heap.get? sa = some so) (D : SetD w so es ep t)
    (hx : es[0]? = some (hv, x)) (h : ∀ h' (p : Nat), SetTable.below t.place p = 1 → h'.get? I = some (siObj (.int (p : Int) 0) 1 sa es.size ep) → Heap.SameBut I s.heap h' → Q (some x) { s with heap := h' }) : wpAny (model P w) A (pyNext (.ref I)) Q E s := by
  have hTy : s.TypeIs (.ref I) "set_iterator" := ⟨_, ho, rfl⟩
  have hpl : t.place.size = 1 := by have := D.fits; simp only [SetTable.fits, Bool.and_eq_true, beq_iff_eq] at this; rw [this.1, hn]
  obtain ⟨b0, p, hp, b1⟩ := below0 t.place hpl
  have hled : t.led = true := by rw [D.led (by omega), hb]; rfl
  unfold pyNext
  refine wpAny_bind (wpAny_attempt (wpAny_callSpecial?_slot (name := Str.ofString "__next__") hTy slot_sn (wpAny_call_entry slot_sn hTy entry_sn ?_ (args_sn _))))
  unfold Builtin.«set_iterator.__next__»
  refine wpAny_bind (wpAny_of_eq (a := (.ref I, [])) (by first | rfl | kernel_rfl) ?_)
  refine wpAny_bind (wpAny_fieldsOf ho rfl ?_)
  dsimp only
  refine wpAny_bind (wpAny_setEntries_of hso D.data D.fits ?_)
  refine KFB.if_not (by simp) ?_
  unfold setNext setsByText
  refine wpAny_bind (wpAny_bind (wpAny_setState_of hso D.data D.fits ?_))
  dsimp only
  refine wpAny_bind (wpAny_bind (wpAny_askSetting (wpAny_pure ?_)))
  refine KFB.if_not hb ?_
  refine KFB.if_not (show (!t.plain && decide (es.size > 1)) = false by rw [hn]; simp) ?_
  refine wpAny_bind (KFB.if_not (show (!t.led && !es.isEmpty) = false by rw [hled]; rfl) (wpAny_pure ?_))
  refine wpAny_pure ?_
  simp only [Int.toNat_natCast, b0, hx, hp]
  refine wpAny_bind (wpAny_setField ho rfl (by simp) ?_)
  have ho2 := Heap.get?_update_self (Obj.mapFields (·.setIfInBounds 0 (rawInt ((p + 1 : Nat) : Int)))) ho (Obj.isFreed_of_fields (Obj.data_mapFields rfl _))
  refine wpAny_bind (wpAny_setField ho2 (Obj.data_mapFields rfl _) (by simp) ?_)
  refine wpAny_pure ⟨x, rfl, wpAny_pure (h _ (p + 1) b1 ?_ ((Heap.SameBut.update s.heap I _).trans (Heap.SameBut.update _ I _)))⟩
  rw [Heap.get?_update_self _ ho2 (Obj.isFreed_of_fields (Obj.data_mapFields (Obj.data_mapFields rfl _) _))]
  rfl
theorem sm_end {I sa : Addr} {p i ep : Nat} {es : Array (Int × Value)} {t : SetTable} {so : Obj} {Q : Option Value → Shared → Prop} (hh : A.handled = none) (hb : byT w = false) (hn : es.size ≤ 1) (hp : SetTable.below t.place p = es.size) (ho : s.heap.get? I = some (siObj (.int (p : Int) 0) i sa es.size ep)) (hso : s.heap.get? sa = some so) (D : SetD w so es ep t)
    (h : ∀ h', Heap.ExtBut I s.heap h' → Q none { s with heap := h' }) : wpAny (model P w) A (pyNext (.ref I)) Q E s := by
  have hTy : s.TypeIs (.ref I) "set_iterator" := ⟨_, ho, rfl⟩
  unfold pyNext
  refine wpAny_bind (wpAny_attempt (wpAny_callSpecial?_slot (name := Str.ofString "__next__") hTy slot_sn (wpAny_call_entry slot_sn hTy entry_sn ?_ (args_sn _))))
  unfold Builtin.«set_iterator.__next__»
  refine wpAny_bind (wpAny_of_eq (a := (.ref I, [])) (by first | rfl | kernel_rfl) ?_)
  refine wpAny_bind (wpAny_fieldsOf ho rfl ?_)
  dsimp only
  refine wpAny_bind (wpAny_setEntries_of hso D.data D.fits ?_)
  refine KFB.if_not (by simp) ?_
  unfold setNext setsByText
  refine wpAny_bind (wpAny_bind (wpAny_setState_of hso D.data D.fits ?_))
  dsimp only
  refine wpAny_bind (wpAny_bind (wpAny_askSetting (wpAny_pure ?_)))
  refine KFB.if_not hb ?_
  refine KFB.if_not (show (!t.plain && decide (es.size > 1)) = false by rw [decide_eq_false (Nat.not_lt.mpr hn), Bool.and_false]) ?_
  refine wpAny_bind (KFB.if_not (show (!t.led && !es.isEmpty) = false by
    by_cases e : es.size = 0
    · rw [show es.isEmpty = true from by rw [Array.isEmpty, decide_eq_true_eq]; exact e]; simp
    · rw [D.led e, hb]; rfl) (wpAny_pure ?_))
  refine wpAny_pure ?_
  have hx : es[es.size]? = none := by simp
  simp only [Int.toNat_natCast, hp, hx]
  refine wpAny_bind (wpAny_setField ho rfl (by simp) ?_)
  exact stop_end hh fun h' hk => h h' fun b o hb e => hk b o ((Heap.SameBut.update s.heap I _).extBut b o hb e)
end
end
section
open PySem.Builtin PySem.Builtin.Frozenset
theorem pick_go {α : Type} (next : Nat → Nat) : ∀ (fuel k : Nat) (left : List α) (out : Array α), fuel = left.length → List.Perm (pickOrder.go next fuel k left out).toList (out.toList ++ left)
  | 0, k, left, out, h => by
    have : left = [] := List.eq_nil_of_length_eq_zero h.symm
    subst this
    simp [pickOrder.go]
  | fuel + 1, k, left, out, h => by
    have hpos : 0 < left.length := by omega
    have hi : next k % left.length < left.length := Nat.mod_lt _ hpos
    rw [pickOrder.go, List.getElem?_eq_getElem hi]
    dsimp only
    refine (pick_go next fuel (k + 1) (left.eraseIdx (next k % left.length)) (out.push left[next k % left.length]) (by rw [List.length_eraseIdx_of_lt hi]; omega)).trans ?_
    rw [Array.toList_push, List.append_assoc]
    exact (List.Perm.refl _).append (perm_erase _ _ hi)
theorem pick_perm {α : Type} (next : Nat → Nat) (xs : Array α) : List.Perm (pickOrder next xs).toList xs.toList := by
  have := pick_go next xs.size 0 xs.toList #[] (by simp)
  simpa [pickOrder] using this
section
section V
variable {w : World} {A : Around} {E : Value → Shared → Prop} {s : Shared} {env : Env} {h₀ : Heap} {body : List Stmt} {Q : Flow → Shared → Prop}
theorem si_self {I sa n ep i : Nat} {first : Value} {Q : Value → Shared → Prop} (ho : s.heap.get? I = some (siObj first i sa n ep)) (h : Q (.ref I) s) : wpAny (model P w) A (pyIter (.ref I)) Q E s := by
  have hT : s.TypeIs (.ref I) "set_iterator" := ⟨_, ho, rfl⟩
  refine wpAny_pyIter_slot hT slot_sni (wpAny_call_entry slot_sni hT entry_sni ?_ (args_sni _))
  show wpAny _ _ (ret (.ref I)) _ _ s
  exact wpAny_pure ⟨_, rfl, "set_iterator", _, hT, slot_sn.lookup, h⟩
theorem walks_dr {I sa T ep : Nat} {es : Array (Int × Value)} {t : SetTable} {so oT : Obj} {places : List Nat} {nt : Nat} {q : List Value} (hh : A.handled = none) (D : SetD w so es ep t) (hne : sa ≠ I) (hTI : T ≠ I) (hTd : oT.data = .seq (places.map fun (i : Nat) => rawInt i).toArray nt)
    (hql : q.length = places.length) (hq : ∀ (i j : Nat), places[i]? = some j → ∃ (hv : Int) (x : Value), es[j]? = some (hv, x) ∧ q[i]? = some x) :
    Walks P w A I (I :: [(sa, so), (T, oT)].map (·.1)) [I] q.length (fun i v => q[i]? = some v) (fun i h => h.get? I = some (siObj (.ref T) i sa es.size ep) ∧ h.get? sa = some so ∧ h.get? T = some oT) where
  sub := fun b hb => by rw [List.mem_singleton.mp hb]; exact .head _
  frame := fun i h h' st hk => ⟨hk I (.head _) _ st.1, hk sa (.tail _ (.head _)) _ st.2.1, hk T (.tail _ (.tail _ (.head _))) _ st.2.2⟩
  item := fun i s Q E hi st hQ => by
    rw [hql] at hi
    obtain ⟨j, hj⟩ : ∃ j, places[i]? = some j := ⟨_, List.getElem?_eq_getElem hi⟩
    obtain ⟨hv, x, hx, hqx⟩ := hq i j hj
    exact dr_item st.1 st.2.1 D st.2.2 hTd hj hx fun h' ho hs => hQ x h' s.toks hqx ⟨ho, hs.extBut _ _ hne st.2.1, hs.extBut _ _ hTI st.2.2⟩ fun b o hb e => hs.extBut b o (by simpa using hb) e
  done := fun s Q E st hQ => dr_end hh st.1 st.2.1 D st.2.2 hTd (by rw [hql]; simp) fun h' hx => hQ h' s.toks fun b o hb e => hx b o (by simpa using hb) e
  self := fun i s Q E st hQ => si_self st.1 hQ
theorem walks_tx {I sa ep : Nat} {es : Array (Int × Value)} {t : SetTable} {so : Obj} (hh : A.handled = none) (hb : byT w = true) (D : SetD w so es ep t) (hne : sa ≠ I) :
    Walks P w A I (I :: [(sa, so)].map (·.1)) [I] ((txtOrd w sa ep es).toList.map (·.2)).length (fun i v => ((txtOrd w sa ep es).toList.map (·.2))[i]? = some v) (fun i h => (∃ slot : Nat, h.get? I = some (siObj (.int slot 0) i sa es.size ep)) ∧ h.get? sa = some so) where
  sub := fun b hb => by rw [List.mem_singleton.mp hb]; exact .head _
  frame := fun i h h' st hk => ⟨let ⟨sl, e⟩ := st.1; ⟨sl, hk I (.head _) _ e⟩, hk sa (.tail _ (.head _)) _ st.2⟩
  item := fun i s Q E hi st hQ => by
    obtain ⟨⟨sl, ho⟩, hso⟩ := st
    have hi' : i < (txtOrd w sa ep es).size := by simpa using hi
    have hx : (txtOrd w sa ep es)[i]? = some ((txtOrd w sa ep es)[i].1, (txtOrd w sa ep es)[i].2) := Array.getElem?_eq_getElem hi'
    exact tx_item hb ho hso D hx fun h' ho' hs => hQ _ h' s.toks (by simp [hx]) ⟨⟨sl, ho'⟩, hs.extBut _ _ hne hso⟩ fun b o hb e => hs.extBut b o (by simpa using hb) e
  done := fun s Q E st hQ => by
    obtain ⟨⟨sl, ho⟩, hso⟩ := st
    exact tx_end hh hb ho hso D (by simp) fun h' hx => hQ h' s.toks fun b o hb e => hx b o (by simpa using hb) e
  self := fun i s Q E st hQ => let ⟨_, ho⟩ := st.1; si_self ho hQ
theorem walks_sm {I sa ep : Nat} {es : Array (Int × Value)} {t : SetTable} {so : Obj} (hh : A.handled = none) (hb : byT w = false) (hn : es.size ≤ 1) (D : SetD w so es ep t) (hne : sa ≠ I) :
    Walks P w A I (I :: [(sa, so)].map (·.1)) [I] (es.toList.map (·.2)).length (fun i v => (es.toList.map (·.2))[i]? = some v) (fun i h => (∃ p : Nat, h.get? I = some (siObj (.int p 0) i sa es.size ep) ∧ SetTable.below t.place p = i ∧ (i = 0 → p = 0)) ∧ h.get? sa = some so) where
  sub := fun b hb => by rw [List.mem_singleton.mp hb]; exact .head _
  frame := fun i h h' st hk => ⟨let ⟨sl, e, r⟩ := st.1; ⟨sl, hk I (.head _) _ e, r⟩, hk sa (.tail _ (.head _)) _ st.2⟩
  item := fun i s Q E hi st hQ => by
    obtain ⟨⟨p, ho, hb', hp⟩, hso⟩ := st
    have hi' : i < es.size := by simpa using hi
    obtain rfl : i = 0 := by omega
    obtain rfl := hp rfl
    have hx : es[0]? = some (es[0].1, es[0].2) := Array.getElem?_eq_getElem hi'
    exact sm_item hb (by omega) ho hso D hx fun h' p hp1 ho' hs => hQ _ h' s.toks (by simp [hx]) ⟨⟨p, ho', hp1, fun h => by cases h⟩, hs.extBut _ _ hne hso⟩ fun b o hb e => hs.extBut b o (by simpa using hb) e
  done := fun s Q E st hQ => by
    obtain ⟨⟨p, ho, hb', hp⟩, hso⟩ := st
    exact sm_end hh hb hn (by rw [hb']; simp) ho hso D fun h' hx => hQ h' s.toks fun b o hb e => hx b o (by simpa using hb) e
  self := fun i s Q E st hQ => let ⟨_, ho, _⟩ := st.1; si_self ho hQ
end V
namespace HforAt_set
noncomputable def Pre (w : World) (A : Around) (E : Value → Shared → Prop) (s : Shared) (env : Env) (h₀ : Heap) (body : List Stmt) (Q : Flow → Shared → Prop) (x : Str) (px : Pos) (sa : Addr) (so : Obj) (es : Array (Int × Value)) (ep : Nat) (t : SetTable) (ms : List Str) (m₀ : Str → Option Value) (news : List (Addr × Obj)) (Pm : Str → Prop) : Prop :=
  (SetD w so es ep t) → (∀ e ∈ es.toList, ∃ y u, e.2 = .str y u ∧ y ∈ ms) → (∀ y ∈ ms, ∃ e ∈ es.toList, ∃ u, e.2 = .str y u) → ((sa, so) ∈ news) → (A.handled = none) → (env.kindOf x = some .local) → ((env.scope.kind == .class || (env.scope.kind == .module && env.locals != env.globals)) = false) → (Fr h₀ env.locals s.heap m₀) → (News h₀ env.locals s.heap news) → (∀ y t it I nx h tk d, y ∈ ms → (∀ p ∈ news, p ∈ nx) → Fr h₀ env.locals h (fun z => if z = x then some (.str y t) else m₀ z) → News h₀ env.locals h ((I, it) :: nx) →
      wpAny (model P w) A (execs body env) (SearchPost h₀ env.locals x [] m₀ ((I, it) :: nx) (Pm y) { s with heap := h, toks := tk, drawn := d } Q) E { s with heap := h, toks := tk, drawn := d }) → (∀ (u : Option Value) h tk d, (∀ y ∈ ms, Pm y) → Fr h₀ env.locals h (fun z => if z = x then u else m₀ z) → News h₀ env.locals h news → Q .next { s with heap := h, toks := tk, drawn := d }) → (PassesOwn (model P w) A env E) → ForAt P w A env (.Name x px) body [] Q E (.ref sa) s
noncomputable abbrev Dat : Type := World × Around × (Value → Shared → Prop) × Shared × Env × Heap × (List Stmt) × (Flow → Shared → Prop) × Str × Pos × Addr × Obj × (Array (Int × Value)) × Nat × SetTable × (List Str) × (Str → Option Value) × (List (Addr × Obj)) × (Str → Prop)
noncomputable def d₀ : Dat := (wd, ⟨none, 0, none, none, 1⟩, (fun _ _ => True), ⟨{}, #[], {}, 1, {}⟩, default, {}, [], (fun _ _ => True), (Str.ofString ""), default, (0 : Nat), default, default, 0, default, [], (fun _ => none), [], (fun _ => True))
@[irreducible] noncomputable def z₀ : Dat := eps d₀ fun z => ¬ Pre z.1 z.2.1 z.2.2.1 z.2.2.2.1 z.2.2.2.2.1 z.2.2.2.2.2.1 z.2.2.2.2.2.2.1 z.2.2.2.2.2.2.2.1 z.2.2.2.2.2.2.2.2.1 z.2.2.2.2.2.2.2.2.2.1 z.2.2.2.2.2.2.2.2.2.2.1 z.2.2.2.2.2.2.2.2.2.2.2.1 z.2.2.2.2.2.2.2.2.2.2.2.2.1 z.2.2.2.2.2.2.2.2.2.2.2.2.2.1 z.2.2.2.2.2.2.2.2.2.2.2.2.2.2.1 z.2.2.2.2.2.2.2.2.2.2.2.2.2.2.2.1 z.2.2.2.2.2.2.2.2.2.2.2.2.2.2.2.2.1 z.2.2.2.2.2.2.2.2.2.2.2.2.2.2.2.2.2.1 z.2.2.2.2.2.2.2.2.2.2.2.2.2.2.2.2.2.2
@[irreducible] noncomputable def w : World := z₀.1
@[irreducible] noncomputable def A : Around := z₀.2.1
@[irreducible] noncomputable def E : Value → Shared → Prop := z₀.2.2.1
@[irreducible] noncomputable def s : Shared := z₀.2.2.2.1
@[irreducible] noncomputable def env : Env := z₀.2.2.2.2.1
@[irreducible] noncomputable def h₀ : Heap := z₀.2.2.2.2.2.1
@[irreducible] noncomputable def body : List Stmt := z₀.2.2.2.2.2.2.1
@[irreducible] noncomputable def Q : Flow → Shared → Prop := z₀.2.2.2.2.2.2.2.1
@[irreducible] noncomputable def x : Str := z₀.2.2.2.2.2.2.2.2.1
@[irreducible] noncomputable def px : Pos := z₀.2.2.2.2.2.2.2.2.2.1
@[irreducible] noncomputable def sa : Addr := z₀.2.2.2.2.2.2.2.2.2.2.1
@[irreducible] noncomputable def so : Obj := z₀.2.2.2.2.2.2.2.2.2.2.2.1
@[irreducible] noncomputable def es : Array (Int × Value) := z₀.2.2.2.2.2.2.2.2.2.2.2.2.1
@[irreducible] noncomputable def ep : Nat := z₀.2.2.2.2.2.2.2.2.2.2.2.2.2.1
@[irreducible] noncomputable def t : SetTable := z₀.2.2.2.2.2.2.2.2.2.2.2.2.2.2.1
@[irreducible] noncomputable def ms : List Str := z₀.2.2.2.2.2.2.2.2.2.2.2.2.2.2.2.1
@[irreducible] noncomputable def m₀ : Str → Option Value := z₀.2.2.2.2.2.2.2.2.2.2.2.2.2.2.2.2.1
@[irreducible] noncomputable def news : List (Addr × Obj) := z₀.2.2.2.2.2.2.2.2.2.2.2.2.2.2.2.2.2.1
@[irreducible] noncomputable def Pm : Str → Prop := z₀.2.2.2.2.2.2.2.2.2.2.2.2.2.2.2.2.2.2
theorem main : Pre w A E s env h₀ body Q x px sa so es ep t ms m₀ news Pm := by
  intro D hes hms hm hh hx hp F N turn done hE
  have hso := (N _ hm).1
  have hT : s.TypeIs (.ref sa) "set" := ⟨so, hso, D.cls⟩
  refine wpAny_pyIter_slot hT PySem.F.slot_set_iter (wpAny_call_entry PySem.F.slot_set_iter hT entry_si ?_ (args_si _))
  unfold Builtin.«frozenset.__iter__»
  refine wpAny_bind (wpAny_of_eq (a := sa) (by first | rfl | kernel_rfl) ?_)
  unfold Frozenset.sizeOf
  refine wpAny_bind (wpAny_bind (wpAny_setEntries_of hso D.data D.fits (wpAny_pure ?_)))
  unfold setDrawn setsByText
  refine wpAny_bind (wpAny_bind (wpAny_setState_of hso D.data D.fits ?_))
  dsimp only
  refine wpAny_bind (wpAny_bind (wpAny_askSetting (wpAny_pure ?_)))
  refine wpAny_pure ?_
  have hlt : sa < s.heap.objs.size := Heap.lt_size hso
  have hLs : env.locals < s.heap.objs.size := F.ns.lt
  have fresh₀ : ∀ a, s.heap.objs.size ≤ a → h₀.get? a = none := fun a ha => by
    cases q : h₀.get? a with
    | none => rfl
    | some o' => exact absurd (Heap.lt_size (F.keep a o' q)) (Nat.not_lt.mpr ha)
  by_cases hdr : (!(byT w) && (!t.plain && decide (es.size > 1))) = true
  · refine KFB.if_so hdr ?_
    refine wpAny_bind (drawOrder_any es.size _ _ _ (by simp) fun places d hperm => ?_)
    refine wpAny_bind (wpAny_newTuple ?_ (by have := D.small; rw [List.length_map, hperm.length_eq, List.length_range, sizeLine_eq]; omega))
    generalize hT' : ({ cls := .type "tuple", data := .seq (places.map fun (i : Nat) => rawInt i).toArray } : Obj) = oT
    have hTd : oT.data = .seq (places.map fun (i : Nat) => rawInt i).toArray 0 := by rw [← hT']
    have hTf : oT.isFreed = false := by rw [← hT']; rfl
    have hso1 : (s.heap.push oT).get? sa = some so := Heap.get?_push_of_some _ hso
    have hT1 : (s.heap.push oT).get? s.heap.objs.size = some oT := Heap.get?_push_size _ hTf
    refine wpAny_bind (wpAny_setEpoch_of hso1 D.data D.fits ?_)
    refine wpAny_bind (wpAny_newObj_type ?_ (by size_fits))
    have hsz : (s.heap.push oT).objs.size = s.heap.objs.size + 1 := Heap.size_push ..
    refine wpAny_pure ⟨_, rfl, "set_iterator", _, ⟨_, Heap.get?_push_size _ rfl, rfl⟩, slot_sn.lookup, ?_⟩
    have hjr : ∀ (i j : Nat), places[i]? = some j → j < es.size := fun i j h => List.mem_range.mp (hperm.mem_iff.mp (List.mem_of_getElem? h))
    have hI0 : (s.heap.push oT).objs.size = s.heap.objs.size + 1 := hsz
    dsimp only
    rw [hI0]
    have hsT : s.heap.objs.size ≠ s.heap.objs.size + 1 := Nat.ne_of_lt (Nat.lt_succ_self _)
    refine search_walks (h₀ := h₀) (need := [(sa, so), (s.heap.objs.size, oT)]) (news := (s.heap.objs.size, oT) :: news) (q := places.map fun j => (es[j]?.map (·.2)).getD .none) (ms := ms) (m₀ := m₀) Pm
      (walks_dr (places := places) hh D (Nat.ne_of_lt (Nat.lt_succ_of_lt hlt)) hsT hTd (by simp) fun i j hj => ⟨es[j]'(hjr i j hj) |>.1, es[j]'(hjr i j hj) |>.2, by simp [hjr i j hj], by simp [hj, hjr i j hj]⟩)
      (fun i h st => ⟨_, st.1⟩) (fun i h h' o st e e' hk => ⟨by rw [st.1] at e; cases e; exact e', hk (sa, so) (.head _), hk (s.heap.objs.size, oT) (.tail _ (.head _))⟩) ?hq ?hall ?hneed ?hst ?hI ?hLI ?hI₀ hx hp ?F ?N ?turn ?done hE
    case hq =>
      intro i v hv
      rw [List.getElem?_map] at hv
      cases hj : places[i]? with
      | none => rw [hj] at hv; cases hv
      | some j =>
        rw [hj] at hv
        simp only [Option.map_some, hjr i j hj, Array.getElem?_eq_getElem, Option.getD_some] at hv
        cases hv
        have hj' := hjr i j hj
        obtain ⟨y, u, e, hy⟩ := hes (es[j]'hj') (by simp)
        exact ⟨y, u, e, hy⟩
    case hall =>
      intro y hy
      obtain ⟨e, he, u, e2⟩ := hms y hy
      obtain ⟨j, hj, rfl⟩ := List.getElem_of_mem he
      have hj' : j < es.size := by simpa using hj
      obtain ⟨i, hi, e3⟩ := List.getElem_of_mem (hperm.mem_iff.mpr (List.mem_range.mpr hj'))
      refine ⟨i, u, ?_⟩
      rw [List.getElem?_map, List.getElem?_eq_getElem hi, e3]
      simp only [Option.map_some, Array.getElem?_eq_getElem hj', Option.getD_some]
      simpa using e2
    case hneed =>
      intro p hp
      rcases List.mem_cons.mp hp with rfl | hp
      · exact .tail _ hm
      · rw [List.mem_singleton.mp hp]; exact .head _
    case hst => exact ⟨by rw [← hI0]; exact Heap.get?_push_size _ rfl, Heap.get?_push_of_some _ hso1, Heap.get?_push_of_some _ hT1⟩
    case hI =>
      intro p hp
      rcases List.mem_cons.mp hp with rfl | hp
      · exact hsT
      · exact Nat.ne_of_lt (Nat.lt_succ_of_lt (Heap.lt_size (N p hp).1))
    case hLI => exact Nat.ne_of_lt (Nat.lt_succ_of_lt hLs)
    case hI₀ => exact fresh₀ _ (Nat.le_succ _)
    case F => exact (F.push _).push _
    case N =>
      intro p hp
      rcases List.mem_cons.mp hp with rfl | hp
      · exact ⟨Heap.get?_push_of_some _ hT1, Ne.symm (Nat.ne_of_lt hLs), fresh₀ _ (Nat.le_refl _)⟩
      · exact ⟨Heap.get?_push_of_some _ (Heap.get?_push_of_some _ (N p hp).1), (N p hp).2⟩
    case turn => exact fun y t it h tk hy F' N' => turn y t it _ _ h tk d hy (fun p hp => .tail _ hp) F' N'
    case done => exact fun u h tk hP F' N' => done u h tk d hP F' fun p hp => N' p (.tail _ hp)
  · refine KFB.if_not (Bool.not_eq_true _ ▸ hdr) ?_
    refine wpAny_bind (wpAny_pure ?_)
    refine wpAny_bind (wpAny_setEpoch_of hso D.data D.fits ?_)
    refine wpAny_bind (wpAny_newObj_type ?_ (by size_fits))
    refine wpAny_pure ⟨_, rfl, "set_iterator", _, ⟨_, Heap.get?_push_size _ rfl, rfl⟩, slot_sn.lookup, ?_⟩
    have hne : sa ≠ s.heap.objs.size := Nat.ne_of_lt hlt
    have close : ∀ {q : List Value} {St : Nat → Heap → Prop}, Walks P w A s.heap.objs.size (s.heap.objs.size :: [(sa, so)].map (·.1)) [s.heap.objs.size] q.length (fun i v => q[i]? = some v) St → (∀ i h, St i h → ∃ o, h.get? s.heap.objs.size = some o) →
        (∀ i h h' o, St i h → h.get? s.heap.objs.size = some o → h'.get? s.heap.objs.size = some o → (∀ p ∈ [(sa, so)], h'.get? p.1 = some p.2) → St i h') → List.Perm q (es.toList.map (·.2)) →
        (∀ h : Heap, h.get? s.heap.objs.size = some (siObj (.int ((0 : Nat) : Int) 0) 0 sa es.size ep) → h.get? sa = some so → St 0 h) →
        codeAny (model P w) A (.forLoop (.Name x px) (.ref s.heap.objs.size) body [] env) (fun r s' => match r with | .ok f => Q f s' | .error e => cameBackBy (model P w) A env E e s')
          { s with heap := s.heap.push { cls := .type "set_iterator", data := .fields [rawInt 0, rawInt 0, Value.ref sa, rawInt es.size, rawInt ep].toArray } } := by
      intro q St W hlive hhold hperm hst
      refine search_walks (h₀ := h₀) (need := [(sa, so)]) (news := news) (q := q) (ms := ms) (m₀ := m₀) Pm W hlive hhold ?hq ?hall ?hneed ?hst ?hI ?hLI ?hI₀ hx hp ?F ?N ?turn ?done hE
      case hq =>
        intro i v hv
        obtain ⟨e, he, rfl⟩ := List.mem_map.mp (hperm.mem_iff.mp (List.mem_of_getElem? hv))
        exact hes e he
      case hall =>
        intro y hy
        obtain ⟨e, he, u, e2⟩ := hms y hy
        obtain ⟨i, hi, e3⟩ := List.getElem_of_mem (hperm.mem_iff.mpr (List.mem_map_of_mem he))
        exact ⟨i, u, by rw [List.getElem?_eq_getElem hi, e3, e2]⟩
      case hneed => exact fun p hp => by rw [List.mem_singleton.mp hp]; exact hm
      case hst => exact hst _ (Heap.get?_push_size _ rfl) (Heap.get?_push_of_some _ hso)
      case hI => exact fun p hp => Nat.ne_of_lt (Heap.lt_size (N p hp).1)
      case hLI => exact Nat.ne_of_lt hLs
      case hI₀ => exact fresh₀ _ (Nat.le_refl _)
      case F => exact F.push _
      case N => exact fun p hp => ⟨Heap.get?_push_of_some _ (N p hp).1, (N p hp).2⟩
      case turn => exact fun y t it h tk hy F' N' => turn y t it _ _ h tk _ hy (fun p hp => hp) F' N'
      case done => exact fun u h tk hP F' N' => done u h tk _ hP F' N'
    cases hb : byT w with
    | true =>
      refine close (walks_tx hh hb D hne) (fun i h st => let ⟨_, e⟩ := st.1; ⟨_, e⟩) (fun i h h' o st e e' hk => ⟨?_, hk (sa, so) (.head _)⟩) ((pick_perm _ es).map _) fun h e e' => ⟨⟨0, e⟩, e'⟩
      obtain ⟨sl, e2⟩ := st.1
      rw [e2] at e; cases e
      exact ⟨sl, e'⟩
    | false =>
      have hn : es.size ≤ 1 := by
        by_cases c : es.size ≤ 1
        · exact c
        · refine absurd ?_ hdr
          rw [hb, D.plain (by omega), decide_eq_true (by omega)]; rfl
      refine close (walks_sm hh hb hn D hne) (fun i h st => let ⟨_, e, _⟩ := st.1; ⟨_, e⟩) (fun i h h' o st e e' hk => ⟨?_, hk (sa, so) (.head _)⟩) (.refl _) fun h e e' => ⟨⟨0, e, ?_, fun _ => rfl⟩, e'⟩
      · obtain ⟨p, e2, r⟩ := st.1
        rw [e2] at e; cases e
        exact ⟨p, e', r⟩
      · have hf := D.fits
        simp only [SetTable.fits, Bool.and_eq_true, beq_iff_eq] at hf
        rcases Nat.le_one_iff_eq_zero_or_eq_one.mp hn with h0 | h1
        · rw [h0] at hf; simp [SetTable.below, SetTable.below.go, hf.1]
        · exact (below0 t.place (by rw [hf.1, h1])).1
end HforAt_set
section V
variable {w : World} {A : Around} {E : Value → Shared → Prop} {s : Shared} {env : Env} {h₀ : Heap} {body : List Stmt} {Q : Flow → Shared → Prop}
theorem forAt_set {x : Str} {px : Pos} {sa : Addr} {so : Obj} {es : Array (Int × Value)} {ep : Nat} {t : SetTable} {ms : List Str} {m₀ : Str → Option Value} {news : List (Addr × Obj)} (Pm : Str → Prop) (D : SetD w so es ep t)
    (hes : ∀ e ∈ es.toList, ∃ y u, e.2 = .str y u ∧ y ∈ ms) (hms : ∀ y ∈ ms, ∃ e ∈ es.toList, ∃ u, e.2 = .str y u) (hm : (sa, so) ∈ news) (hh : A.handled = none) (hx : env.kindOf x = some .local)
    (hp : (env.scope.kind == .class || (env.scope.kind == .module && env.locals != env.globals)) = false) (F : Fr h₀ env.locals s.heap m₀) (N : News h₀ env.locals s.heap news)
    (turn : ∀ y t it I nx h tk d, y ∈ ms → (∀ p ∈ news, p ∈ nx) → Fr h₀ env.locals h (fun z => if z = x then some (.str y t) else m₀ z) → News h₀ env.locals h ((I, it) :: nx) →
      wpAny (model P w) A (execs body env) (SearchPost h₀ env.locals x [] m₀ ((I, it) :: nx) (Pm y) { s with heap := h, toks := tk, drawn := d } Q) E { s with heap := h, toks := tk, drawn := d })
    (done : ∀ (u : Option Value) h tk d, (∀ y ∈ ms, Pm y) → Fr h₀ env.locals h (fun z => if z = x then u else m₀ z) → News h₀ env.locals h news → Q .next { s with heap := h, toks := tk, drawn := d })
    (hE : PassesOwn (model P w) A env E := by passes_own) : ForAt P w A env (.Name x px) body [] Q E (.ref sa) s :=
  eps_allz (z := HforAt_set.z₀) (P := fun z : HforAt_set.Dat => HforAt_set.Pre z.1 z.2.1 z.2.2.1 z.2.2.2.1 z.2.2.2.2.1 z.2.2.2.2.2.1 z.2.2.2.2.2.2.1 z.2.2.2.2.2.2.2.1 z.2.2.2.2.2.2.2.2.1 z.2.2.2.2.2.2.2.2.2.1 z.2.2.2.2.2.2.2.2.2.2.1 z.2.2.2.2.2.2.2.2.2.2.2.1 z.2.2.2.2.2.2.2.2.2.2.2.2.1 z.2.2.2.2.2.2.2.2.2.2.2.2.2.1 z.2.2.2.2.2.2.2.2.2.2.2.2.2.2.1 z.2.2.2.2.2.2.2.2.2.2.2.2.2.2.2.1 z.2.2.2.2.2.2.2.2.2.2.2.2.2.2.2.2.1 z.2.2.2.2.2.2.2.2.2.2.2.2.2.2.2.2.2.1 z.2.2.2.2.2.2.2.2.2.2.2.2.2.2.2.2.2.2) (by delta HforAt_set.z₀; exact rfl) (by with_unfolding_all exact HforAt_set.main) (w, A, E, s, env, h₀, body, Q, x, px, sa, so, es, ep, t, ms, m₀, news, Pm) D hes hms hm hh hx hp F N turn done hE
end V
end
end
section
example : True := by
  k_with_none
  w_top off
  (k_with "ite" => (k_closed; (first | (refine ite_pos (by with_reducible assumption) ?_) | (refine ite_neg (by with_reducible assumption) ?_) | (refine ite_isFalse (by with_reducible assumption) ?_) | k_dflt (refine ite_pos (by decide) ?_) | k_dflt (refine ite_neg (by decide) ?_) | (refine ite_pos (by k_dec) ?_) | (refine ite_neg (by k_dec) ?_))))
  (k_with "k_room" => (first | exact room_of (by assumption) 0 rfl | exact room_of (by assumption) 1 rfl | exact room_of (by assumption) 2 rfl | exact room_of (by assumption) 3 rfl | exact room_of (by assumption) 4 rfl | exact room_of (by assumption) 5 rfl | exact room_of (by assumption) 6 rfl))
  (k_with "my enter" => ((first
    | (refine' code_def ?k1 ?k2 ?k3 ?k4 ?k5 ?kA ?kF ?kK ?k6 ?k7 ?k8 ?k9 ?kB ?_ ?c2 ?c3 ?c4 ?c5; (case kA => exact rfl); (case kF => exact rfl); (case kK => first | exact rfl | assumption); (case k1 => k_asm); (case k2 => k_asm); (case k3 => k_asm); (case k4 => k_asm); (case k5 => k_asm); (case k6 => k_is); (case k7 => k_is); (case k8 => k_room); (case k9 => first | exact BindsTo.of_eq rfl | exact binds_K (by k_in) rfl (by k_is) rfl rfl rfl | fail "k_enter: no rule for these arguments"); (case c5 => decide); (case kB => exact locs rfl); (case c2 => exact rfl); (case c3 => exact rfl); (case c4 => exact rfl); k_whole; intro g' L' h' FG' F' N' B' X' T'; (try dsimp only); (try k_lift B'); (try k_fold))
    | (refine' code_defC ?k1 ?k2 ?k3 ?k4 ?k5 ?kA ?kF ?kK ?k6 ?k7 ?k8 ?k9 ?kB ?kD ?_ ?c2 ?c3 ?c4; (case kA => exact rfl); (case kF => exact rfl); (case kK => first | exact rfl | assumption); (case k1 => k_asm); (case k2 => k_asm); (case k3 => k_asm); (case k4 => k_asm); (case k5 => k_asm); (case k6 => k_is); (case k7 => k_is); (case k8 => k_room); (case k9 => first | exact BindsTo.of_eq rfl | exact binds_K (by k_in) rfl (by k_is) rfl rfl rfl | fail "k_enter: no rule for these arguments"); (case kB => exact rfl); (case kD => decide +kernel); (case c2 => exact rfl); (case c3 => exact rfl); (case c4 => exact rfl); k_whole; intro g' L' h' tk' cells' FG' F' N' Y' B' X' T' l1; (try k_lt l1); k_cells Y'; (try simp only [List.cons_append, List.nil_append] at N'); (try dsimp only); (try k_lift B'); (try k_fold)))))
  (k_with "call builtin:len" => (((with_reducible show wpAny _ _ (call (Value.builtin _) [Value.str _ _]) _ _ _); refine len_str (by omega) ?_)))
  (k_with "SearchPost" => (((with_reducible show SearchPost _ _ _ _ _ _ _ _ _ (Flow.ret _) _); dsimp only [SearchPost])))
  (k_with "execs cons" => ((k_here; (with_reducible show wpAny _ _ _ _ _ (Shared.mk _ _ _ (_ + _) _)); refine gentoks 1 (by first | omega | (dsimp only; omega)) ?_; intro _ _)))
  (k_with "execs nil" => ((k_here; (with_reducible show wpAny _ _ _ _ _ (Shared.mk _ _ _ (_ + _) _)); refine gentoks 1 (by first | omega | (dsimp only; omega)) ?_; intro _ _)))
  (k_with "my sub" => (first | exact fun _ h => h | exact fun _ h => List.mem_cons_of_mem _ h | exact fun _ h => List.mem_cons_of_mem _ (List.mem_cons_of_mem _ h) | exact fun _ h => List.mem_cons_of_mem _ (List.mem_cons_of_mem _ (List.mem_cons_of_mem _ h))))
  (k_with "k_all" => (first | assumption | exact off_of (by assumption) (by omega)))
  (k_with "my le" => (first | exact le_of 0 rfl (by assumption) | exact le_of 1 rfl (by assumption) | exact le_of 2 rfl (by assumption) | exact le_of 3 rfl (by assumption) | exact le_of 6 rfl (by assumption) | exact le_of 4 rfl (by assumption) | exact le_of 5 rfl (by assumption)))
  trivial
/-- a set of texts: for in, and for walks -/
noncomputable def Mods (w : World) (o : Obj) (ms : List Str) : Prop :=
  (∃ n, o.SetObjOf (PySem.strKind P w) (fun y => decide (y ∈ ms)) n ∧ n ≤ 64) ∧ ∃ es ep t, SetD w o es ep t ∧ (∀ e ∈ es.toList, ∃ y u, e.2 = .str y u ∧ y ∈ ms) ∧ (∀ y ∈ ms, ∃ e ∈ es.toList, ∃ u, e.2 = .str y u)
theorem mods_of {w : World} {o : Obj} {ms : List Str} (h : StrSet w o ms) (hl : ms.length ≤ 64) : Mods w o ms := by
  obtain ⟨hex, es, ep, t, hd, hel, hf, hmem, hn, hled, hpl⟩ := h
  refine ⟨⟨es.size, ⟨hex, es, ep, t, hd, hel, fun k => by rw [decide_eq_true_eq]; exact hmem k, rfl, hf⟩, by omega⟩, es, ep, t, ⟨hex.1, hd, hf, fun _ => hled, hpl, by omega⟩, fun e he => ?_, fun y hy => ?_⟩
  · obtain ⟨⟨k, hk, _⟩, _⟩ := hel e he
    obtain ⟨u, eu⟩ := Value.isStrOf_shape hk
    exact ⟨k, u, eu, (hmem k).mpr ⟨e, he, hk⟩⟩
  · obtain ⟨e, he, hk⟩ := (hmem y).mp hy
    obtain ⟨u, eu⟩ := Value.isStrOf_shape hk
    exact ⟨e, he, u, eu⟩
theorem mods_fresh {w : World} (led : Bool) : Mods w { cls := .type "set", dict := none, data := .set #[] 0 (.fresh 0 0 led) } [] :=
  ⟨⟨0, by simpa using setObjOf_fresh (knd := PySem.strKind P w) led, Nat.zero_le _⟩, #[], 0, _, ⟨rfl, rfl, by rfl, fun h => absurd rfl h, fun h => absurd rfl h, Nat.zero_le _⟩, (fun e he => by simp at he), (fun y hy => by cases hy)⟩
/-- a folder's name, made plain -/
noncomputable def dirF (x : Str) : Str := if (x == Str.ofString "/usr/./lib/") = true then Str.ofString "/usr/lib" else x
theorem strsAt : ∀ {vs : List Value} {ys : List Str}, StrsAre vs ys → ∀ {i : Nat} {v : Value}, vs[i]? = some v → ∃ y u, v = .str y u ∧ ys[i]? = some y
  | _, _, .nil, _, _, h => by cases h
  | _, _, .cons y t r, 0, _, h => by cases h; exact ⟨y, t, rfl, rfl⟩
  | _, _, .cons y t r, i + 1, v, h => strsAt r (i := i) h
theorem take_map {f : Str → Str} {fs : List Str} {i : Nat} {y : Str} (h : fs[i]? = some y) : (fs.take (i + 1)).map f = (fs.take i).map f ++ [f y] := by
  rw [List.take_succ, h]; simp
theorem emptyStr {vs : List Value} {ms : List Str} (h : StrsAre vs ms) (e : vs.isEmpty = true) : ms = [] := by
  cases h with
  | nil => rfl
  | cons => cases e
/-- the dict of an _Ignore's names -/
noncomputable abbrev dxObj (w : World) (a b c : Tok) (sm dl ig : Addr) : Obj := dictOf [{ hash := PyData.keyHash w.params (Str.ofString "_mods"), key := .str (Str.ofString "_mods") a, val := .ref sm }, { hash := PyData.keyHash w.params (Str.ofString "_dirs"), key := .str (Str.ofString "_dirs") b, val := .ref dl }, { hash := PyData.keyHash w.params (Str.ofString "_ignore"), key := .str (Str.ofString "_ignore") c, val := .ref ig }] 3
theorem allLt_mem {d : Addr} (l : List (Addr × Obj)) : AllLt d l → ∀ p ∈ l, @LT.lt Nat _ p.1 d := by
  induction l with
  | nil => intro _ p hp; cases hp
  | cons q r ih =>
    intro h p hp
    rcases List.mem_cons.mp hp with e | hp
    · rw [e]; exact h.1
    · exact ih h.2 p hp
theorem off1N_mem {D : Addr} : ∀ {l : List (Addr × Obj)}, LCg.Off1 D l → ∀ p ∈ l, p.1 ≠ D
  | [], _, _, h => by cases h
  | q :: r, h, p, hp => by
    rcases List.mem_cons.mp hp with rfl | hp
    · exact h.1
    · exact off1N_mem h.2 p hp
theorem offA {a b c e d : Addr} {oa ob oc oe : Obj} {news : List (Addr × Obj)} (h : @LT.lt Nat _ a d ∧ @LT.lt Nat _ b d ∧ @LT.lt Nat _ c d ∧ @LT.lt Nat _ e d ∧ AllLt d news) : ∀ p ∈ ((a, oa) : Addr × Obj) :: (b, ob) :: (c, oc) :: (e, oe) :: news, p.1 ≠ d := fun p hp => by
  rcases List.mem_cons.mp hp with rfl | hp
  · exact Nat.ne_of_lt h.1
  rcases List.mem_cons.mp hp with rfl | hp
  · exact Nat.ne_of_lt h.2.1
  rcases List.mem_cons.mp hp with rfl | hp
  · exact Nat.ne_of_lt h.2.2.1
  rcases List.mem_cons.mp hp with rfl | hp
  · exact Nat.ne_of_lt h.2.2.2.1
  · exact Nat.ne_of_lt (allLt_mem _ h.2.2.2.2 p hp)
theorem set_K {w : World} {A : Around} {E : Value → Shared → Prop} {s : Shared} {h₀ : Heap} {L l : Addr} {m : Str → Option Value} {news : List (Addr × Obj)} {vs : List Value} {ms : List Str} {n : Nat} {Q : Value → Shared → Prop} (F : Fr h₀ L s.heap m) (N : News h₀ L s.heap news) (hh : A.handled = none) (hm : (l, lst vs n) ∈ news) (hi : StrsAre vs ms) (hnd : ms.Nodup) (hb : ms.length < 64)
    (h : ∀ D o h' tk, Fr h₀ L h' m → News h₀ L h' ((D, o) :: news) → (∀ p ∈ news, p.1 < D) → StrSet w o ms → Q (.ref D) { s with heap := h', toks := tk }) : wpAny (model P w) A (call (.type "set") [.ref l]) Q E s := by
  refine call_set_strs hh ⟨_, (N _ hm).1, rfl, n, rfl⟩ hi hnd hb fun h' tk hS hk => ?_
  obtain ⟨o, ho, hS⟩ := hS
  have hLs : L < s.heap.objs.size := F.ns.lt
  have hk' : ∀ b o, s.heap.get? b = some o → h'.get? b = some o := fun b o e => hk b o (Heap.lt_size e) e
  refine h _ o h' tk (F.keeps hk') (fun q hq => ?_) (fun p hp => Heap.lt_size (N p hp).1) hS
  rcases List.mem_cons.mp hq with rfl | hq
  · refine ⟨ho, Ne.symm (Nat.ne_of_lt hLs), ?_⟩
    cases q : h₀.get? s.heap.objs.size with
    | none => rfl
    | some o' => exact absurd (Heap.lt_size (F.keep _ _ q)) (Nat.lt_irrefl _)
  · exact ⟨hk' _ _ (N q hq).1, (N q hq).2⟩
theorem truthy_K {w : World} {A : Around} {E : Value → Shared → Prop} {s : Shared} {h₀ : Heap} {L l : Addr} {news : List (Addr × Obj)} {vs : List Value} {n : Nat} {Q : Bool → Shared → Prop} (N : News h₀ L s.heap news) (hm : (l, lst vs n) ∈ news) (hb : vs.length ≤ 64) (h : Q (!vs.isEmpty) { s with toks := s.toks + 1 + 1 }) : wpAny (model P w) A (truthy (.ref l)) Q E s := by
  refine wpAny_truthy_list (items := vs.toArray) ⟨_, (N _ hm).1, rfl, n, rfl⟩ (by rw [List.size_toArray]; omega) ?_
  cases vs <;> exact h
example : True := by
  (k_with "truthy ref" => ((k_here; (rename News _ _ _ _ => lN'); first | refine truthy_K lN' hT1 hT2 ?_ | refine truthy_K lN' (.tail _ hT1) hT2 ?_ | refine truthy_K lN' (.tail _ (.tail _ hT1)) hT2 ?_ | refine truthy_K lN' (.tail _ (.tail _ (.tail _ hT1))) hT2 ?_ | refine truthy_K lN' (.tail _ (.tail _ (.tail _ (.tail _ hT1)))) hT2 ?_ | refine truthy_K lN' (.tail _ (.tail _ (.tail _ (.tail _ (.tail _ hT1))))) hT2 ?_ | refine truthy_K lN' (.tail _ (.tail _ (.tail _ (.tail _ (.tail _ (.tail _ hT1)))))) hT2 ?_ | refine truthy_K lN' hU1 hU2 ?_ | refine truthy_K lN' (.tail _ hU1) hU2 ?_ | refine truthy_K lN' (.tail _ (.tail _ hU1)) hU2 ?_ | refine truthy_K lN' (.tail _ (.tail _ (.tail _ hU1))) hU2 ?_ | refine truthy_K lN' (.tail _ (.tail _ (.tail _ (.tail _ hU1)))) hU2 ?_ | refine truthy_K lN' (.tail _ (.tail _ (.tail _ (.tail _ (.tail _ hU1))))) hU2 ?_ | refine truthy_K lN' (.tail _ (.tail _ (.tail _ (.tail _ (.tail _ (.tail _ hU1)))))) hU2 ?_)))
  (k_with "call type:set" => ((k_here; (rename Fr _ _ _ _ => lF'); (rename News _ _ _ _ => lN'); (first | refine set_K lF' lN' (by rfl) hT1 hv hms (by omega) ?_ | refine set_K lF' lN' (by rfl) (.tail _ hT1) hv hms (by omega) ?_ | refine set_K lF' lN' (by rfl) (.tail _ (.tail _ hT1)) hv hms (by omega) ?_ | refine set_K lF' lN' (by rfl) (.tail _ (.tail _ (.tail _ hT1))) hv hms (by omega) ?_ | refine set_K lF' lN' (by rfl) (.tail _ (.tail _ (.tail _ (.tail _ hT1)))) hv hms (by omega) ?_ | refine set_K lF' lN' (by rfl) (.tail _ (.tail _ (.tail _ (.tail _ (.tail _ hT1))))) hv hms (by omega) ?_ | refine set_K lF' lN' (by rfl) (.tail _ (.tail _ (.tail _ (.tail _ (.tail _ (.tail _ hT1)))))) hv hms (by omega) ?_); clear lF' lN'; intro d8 o8 h8 tk8 F8 N8 l8 hS8; (try k_lt l8))))
  (k_with "eval ListComp" => ((k_here; (rename Fr _ _ _ _ => lF'); k_dflt (refine LCg.ListComp_U lF' (by rfl) (by decide) (by rfl) (by decide) (by rfl) ?_ (by intro _; with_unfolding_all rfl)))))
  (k_with "call ref" => ((k_here; (with_reducible show wpAny _ _ (call (Value.ref 80) [Value.str (Str.ofString "/usr/./lib/") _]) _ _ _); (rename Fr _ _ _ _ => lF'); (rename News _ _ _ _ => lN'); k_dflt (refine (norm_con1 _ _ _).use lF' lN' (by with_unfolding_all rfl) (by k_extra "my le") (by k_extra "my le") (by assumption) (by assumption) (by assumption) (by rfl) ?_); clear lF' lN'; intro v' news' h' tk' hp' F' N'; (obtain ⟨e1', t', e2'⟩ := hp'; subst e1' e2'))))
  (k_with "call ref" => ((k_here; (with_reducible show wpAny _ _ (call (Value.ref 80) [Value.str (Str.ofString "/t[mp]") _]) _ _ _); (rename Fr _ _ _ _ => lF'); (rename News _ _ _ _ => lN'); k_dflt (refine (norm_con2 _ _ _).use lF' lN' (by with_unfolding_all rfl) (by k_extra "my le") (by k_extra "my le") (by assumption) (by assumption) (by assumption) (by rfl) ?_); clear lF' lN'; intro v' news' h' tk' hp' F' N'; (obtain ⟨e1', t', e2'⟩ := hp'; subst e1' e2'))))
  trivial
namespace Hnew_con
noncomputable def Pre (w : World) (am : Addr) (af : Addr) (n1 : Nat) (n2 : Nat) (vs : List Value) (us : List Value) (ms : List Str) (fs : List Str) (news : List (Addr × Obj)) (cd : CD) : Prop :=
  ((am, lst vs n1) ∈ news) → ((af, lst us n2) ∈ news) → (StrsAre vs ms) → (StrsAre us fs) → (ms.Nodup) → (ms.length ≤ 3) → (fs.length ≤ 2) → (∀ x ∈ fs, x = D1 ∨ x = D2) → cd.Ok 440 w 103 [.ref am, .ref af] news (fun v news' => ∃ x dx sm dl ig a b c t oig so ds, v = .ref x ∧ news' = (ig, oig) :: (dl, lst ds ds.length) :: (sm, so) :: (x, instObj 103 dx) :: (dx, dxObj w a b c sm dl ig) :: news ∧ oig.IsDictOf (PySem.strKind P w) [(Str.ofString "<string>", .int 1 t)] ∧ Mods w so ms ∧ StrsAre ds (fs.map dirF) ∧ (∀ p ∈ (dl, lst ds ds.length) :: (sm, so) :: (x, instObj 103 dx) :: (dx, dxObj w a b c sm dl ig) :: news, p.1 ≠ ig) ∧ (ig == sysModules) = false)
noncomputable abbrev Dat : Type := World × Addr × Addr × Nat × Nat × (List Value) × (List Value) × (List Str) × (List Str) × (List (Addr × Obj)) × CD
noncomputable def d₀ : Dat := (wd, (0 : Nat), (0 : Nat), 0, 0, [], [], [], [], [], CD.d)
@[irreducible] noncomputable def z₀ : Dat := eps d₀ fun z => ¬ Pre z.1 z.2.1 z.2.2.1 z.2.2.2.1 z.2.2.2.2.1 z.2.2.2.2.2.1 z.2.2.2.2.2.2.1 z.2.2.2.2.2.2.2.1 z.2.2.2.2.2.2.2.2.1 z.2.2.2.2.2.2.2.2.2.1 z.2.2.2.2.2.2.2.2.2.2
@[irreducible] noncomputable def w : World := z₀.1
@[irreducible] noncomputable def am : Addr := z₀.2.1
@[irreducible] noncomputable def af : Addr := z₀.2.2.1
@[irreducible] noncomputable def n1 : Nat := z₀.2.2.2.1
@[irreducible] noncomputable def n2 : Nat := z₀.2.2.2.2.1
@[irreducible] noncomputable def vs : List Value := z₀.2.2.2.2.2.1
@[irreducible] noncomputable def us : List Value := z₀.2.2.2.2.2.2.1
@[irreducible] noncomputable def ms : List Str := z₀.2.2.2.2.2.2.2.1
@[irreducible] noncomputable def fs : List Str := z₀.2.2.2.2.2.2.2.2.1
@[irreducible] noncomputable def news : List (Addr × Obj) := z₀.2.2.2.2.2.2.2.2.2.1
@[irreducible] noncomputable def cd : CD := z₀.2.2.2.2.2.2.2.2.2.2
theorem main : Pre w am af n1 n2 vs us ms fs news cd := by
  intro h1 h2 hv hu hms hml hfl hfs hdp hun B F X N T hQ
  have hk : (⟨.function, cd.cnm, cd.cg, cd.cc, cd.cm⟩ : Scope).kind = .function := rfl
  have hT1 := h1
  have hT2 : vs.length ≤ 64 := by rw [hv.length]; omega
  have hU1 := h2
  have hU2 : us.length ≤ 64 := by rw [hu.length]; omega
  k_steps
  all_goals (try k_data)
  · (rename Fr cd.h₀ cd.L _ _ => kF'); (rename News cd.h₀ cd.L _ _ => kN')
    try dsimp only at kN'
    refine hQ _ _ _ _ ⟨_, _, _, _, _, _, _, _, _, _, _, _, rfl, rfl, by assumption, (by rw [emptyStr hv (by assumption)]; exact mods_fresh _), (by rw [emptyStr hu (by assumption)]; exact .nil), ?_, by assumption⟩ kF' kN'
    exact offA (by assumption)
  · (rename Fr _ _ _ _ => lF'); (rename News _ _ _ _ => lN')
    with_unfolding_all refine LCg.CompSrc.ledger (ax := af) (its := us.toArray) (k := n2) rfl lF' lN' ?hmem (by rw [List.size_toArray, sizeLine_eq]; omega) ?_
    case hmem => first | exact .tail _ (.tail _ (.tail _ h2)) | exact .tail _ (.tail _ h2)
    intro gg
    clear lF' lN'
    refine cr_ind (fun i ys nw => nw = _ ∧ StrsAre ys ((fs.take i).map dirF) ∧ ys.length ≤ i) _ ?fin1 ?turn1 ⟨rfl, .nil, Nat.le_refl _⟩
    case turn1 =>
      intro k i ys nw v I oI C oD D m₂ h tk E' hik hj hP hC hx F3 N3 off3 ne3 next
      obtain ⟨rfl, hj, hjl⟩ := hj
      have hv9 : us[i]? = some v := by simpa using hP
      obtain ⟨y, u, rfl, hfy⟩ := strsAt hu hv9
      have hmm : y ∈ fs := List.mem_of_getElem? hfy
      rcases hfs y hmm with rfl | rfl
      all_goals
        k_steps
        (rename Fr _ _ _ _ => lF'); (rename News _ _ _ _ => lN')
        exact cend lF' lN' off3 (.inr ⟨_, (by first | exact .tail _ (.tail _ (.tail _ h2)) | exact .tail _ (.tail _ h2)), rfl, _, rfl⟩) (next _ _ ⟨rfl, (by rw [take_map hfy]; exact kct_snoc hj), (by rw [List.length_append]; exact Nat.succ_le_succ hjl)⟩)
    case fin1 =>
      rintro ys1 nw ⟨rfl, hy1, hyl1⟩ D1' h tk F3 N3 off3
      try dsimp only
      obtain ⟨q1, q2, q3, q4⟩ := off3
      have q5 := off1N_mem q4
      rw [List.size_toArray, hu.length, List.take_length] at hy1
      rw [List.size_toArray] at hyl1
      k_steps
      (rename Fr cd.h₀ cd.L _ _ => kF'); (rename News cd.h₀ cd.L _ _ => kN')
      try dsimp only at kN'
      refine hQ _ _ _ _ ⟨_, _, _, _, _, _, _, _, _, _, _, _, rfl, rfl, by assumption, (by rw [emptyStr hv (by assumption)]; exact mods_fresh _), hy1, ?_, by assumption⟩ kF' kN'
      exact offA (by assumption)
  · (rename Fr cd.h₀ cd.L _ _ => kF'); (rename News cd.h₀ cd.L _ _ => kN')
    try dsimp only at kN'
    refine hQ _ _ _ _ ⟨_, _, _, _, _, _, _, _, _, _, _, _, rfl, rfl, by assumption, (mods_of hS8 (by omega)), (by rw [emptyStr hu (by assumption)]; exact .nil), ?_, by assumption⟩ kF' kN'
    exact offA (by assumption)
  · (rename Fr _ _ _ _ => lF'); (rename News _ _ _ _ => lN')
    with_unfolding_all refine LCg.CompSrc.ledger (ax := af) (its := us.toArray) (k := n2) rfl lF' lN' ?hmem (by rw [List.size_toArray, sizeLine_eq]; omega) ?_
    case hmem => first | exact .tail _ (.tail _ (.tail _ h2)) | exact .tail _ (.tail _ h2)
    intro gg
    clear lF' lN'
    refine cr_ind (fun i ys nw => nw = _ ∧ StrsAre ys ((fs.take i).map dirF) ∧ ys.length ≤ i) _ ?fin1 ?turn1 ⟨rfl, .nil, Nat.le_refl _⟩
    case turn1 =>
      intro k i ys nw v I oI C oD D m₂ h tk E' hik hj hP hC hx F3 N3 off3 ne3 next
      obtain ⟨rfl, hj, hjl⟩ := hj
      have hv9 : us[i]? = some v := by simpa using hP
      obtain ⟨y, u, rfl, hfy⟩ := strsAt hu hv9
      have hmm : y ∈ fs := List.mem_of_getElem? hfy
      rcases hfs y hmm with rfl | rfl
      all_goals
        k_steps
        (rename Fr _ _ _ _ => lF'); (rename News _ _ _ _ => lN')
        exact cend lF' lN' off3 (.inr ⟨_, (by first | exact .tail _ (.tail _ (.tail _ h2)) | exact .tail _ (.tail _ h2)), rfl, _, rfl⟩) (next _ _ ⟨rfl, (by rw [take_map hfy]; exact kct_snoc hj), (by rw [List.length_append]; exact Nat.succ_le_succ hjl)⟩)
    case fin1 =>
      rintro ys1 nw ⟨rfl, hy1, hyl1⟩ D1' h tk F3 N3 off3
      try dsimp only
      obtain ⟨q1, q2, q3, q4⟩ := off3
      have q5 := off1N_mem q4
      rw [List.size_toArray, hu.length, List.take_length] at hy1
      rw [List.size_toArray] at hyl1
      k_steps
      (rename Fr cd.h₀ cd.L _ _ => kF'); (rename News cd.h₀ cd.L _ _ => kN')
      try dsimp only at kN'
      refine hQ _ _ _ _ ⟨_, _, _, _, _, _, _, _, _, _, _, _, rfl, rfl, by assumption, (mods_of hS8 (by omega)), hy1, ?_, by assumption⟩ kF' kN'
      exact offA (by assumption)
end Hnew_con
theorem new_con (w : World) (am af : Addr) (n1 n2 : Nat) (vs us : List Value) (ms fs : List Str) (news : List (Addr × Obj)) (h1 : (am, lst vs n1) ∈ news) (h2 : (af, lst us n2) ∈ news) (hv : StrsAre vs ms) (hu : StrsAre us fs) (hms : ms.Nodup) (hml : ms.length ≤ 3) (hfl : fs.length ≤ 2) (hfs : ∀ x ∈ fs, x = D1 ∨ x = D2) :
    Con 440 w 103 [.ref am, .ref af] news (fun v news' => ∃ x dx sm dl ig a b c t oig so ds, v = .ref x ∧ news' = (ig, oig) :: (dl, lst ds ds.length) :: (sm, so) :: (x, instObj 103 dx) :: (dx, dxObj w a b c sm dl ig) :: news ∧ oig.IsDictOf (PySem.strKind P w) [(Str.ofString "<string>", .int 1 t)] ∧ Mods w so ms ∧ StrsAre ds (fs.map dirF) ∧ (∀ p ∈ (dl, lst ds ds.length) :: (sm, so) :: (x, instObj 103 dx) :: (dx, dxObj w a b c sm dl ig) :: news, p.1 ≠ ig) ∧ (ig == sysModules) = false) :=
  con_of fun c => eps_allz (z := Hnew_con.z₀) (P := fun z : Hnew_con.Dat => Hnew_con.Pre z.1 z.2.1 z.2.2.1 z.2.2.2.1 z.2.2.2.2.1 z.2.2.2.2.2.1 z.2.2.2.2.2.2.1 z.2.2.2.2.2.2.2.1 z.2.2.2.2.2.2.2.2.1 z.2.2.2.2.2.2.2.2.2.1 z.2.2.2.2.2.2.2.2.2.2) (by delta Hnew_con.z₀; exact rfl) (by with_unfolding_all exact Hnew_con.main) (w, am, af, n1, n2, vs, us, ms, fs, news, c) h1 h2 hv hu hms hml hfl hfs
end
section
example : True := by
  k_with_none
  w_top off
  (k_with "ite" => (k_closed; (first | (refine ite_pos (by with_reducible assumption) ?_) | (refine ite_neg (by with_reducible assumption) ?_) | (refine ite_isFalse (by with_reducible assumption) ?_) | k_dflt (refine ite_pos (by decide) ?_) | k_dflt (refine ite_neg (by decide) ?_) | (refine ite_pos (by k_dec) ?_) | (refine ite_neg (by k_dec) ?_))))
  (k_with "k_room" => (first | exact room_of (by assumption) 0 rfl | exact room_of (by assumption) 1 rfl | exact room_of (by assumption) 2 rfl | exact room_of (by assumption) 3 rfl | exact room_of (by assumption) 4 rfl | exact room_of (by assumption) 5 rfl | exact room_of (by assumption) 6 rfl))
  (k_with "my enter" => ((first
    | (refine' code_def ?k1 ?k2 ?k3 ?k4 ?k5 ?kA ?kF ?kK ?k6 ?k7 ?k8 ?k9 ?kB ?_ ?c2 ?c3 ?c4 ?c5; (case kA => exact rfl); (case kF => exact rfl); (case kK => first | exact rfl | assumption); (case k1 => k_asm); (case k2 => k_asm); (case k3 => k_asm); (case k4 => k_asm); (case k5 => k_asm); (case k6 => k_is); (case k7 => k_is); (case k8 => k_room); (case k9 => first | exact BindsTo.of_eq rfl | exact binds_K (by k_in) rfl (by k_is) rfl rfl rfl | fail "k_enter: no rule for these arguments"); (case c5 => decide); (case kB => exact locs rfl); (case c2 => exact rfl); (case c3 => exact rfl); (case c4 => exact rfl); k_whole; intro g' L' h' FG' F' N' B' X' T'; (try dsimp only); (try k_lift B'); (try k_fold))
    | (refine' code_defC ?k1 ?k2 ?k3 ?k4 ?k5 ?kA ?kF ?kK ?k6 ?k7 ?k8 ?k9 ?kB ?kD ?_ ?c2 ?c3 ?c4; (case kA => exact rfl); (case kF => exact rfl); (case kK => first | exact rfl | assumption); (case k1 => k_asm); (case k2 => k_asm); (case k3 => k_asm); (case k4 => k_asm); (case k5 => k_asm); (case k6 => k_is); (case k7 => k_is); (case k8 => k_room); (case k9 => first | exact BindsTo.of_eq rfl | exact binds_K (by k_in) rfl (by k_is) rfl rfl rfl | fail "k_enter: no rule for these arguments"); (case kB => exact rfl); (case kD => decide +kernel); (case c2 => exact rfl); (case c3 => exact rfl); (case c4 => exact rfl); k_whole; intro g' L' h' tk' cells' FG' F' N' Y' B' X' T' l1; (try k_lt l1); k_cells Y'; (try simp only [List.cons_append, List.nil_append] at N'); (try dsimp only); (try k_lift B'); (try k_fold)))))
  (k_with "call builtin:len" => (((with_reducible show wpAny _ _ (call (Value.builtin _) [Value.str _ _]) _ _ _); refine len_str (by omega) ?_)))
  (k_with "SearchPost" => (((with_reducible show SearchPost _ _ _ _ _ _ _ _ _ (Flow.ret _) _); dsimp only [SearchPost])))
  (k_with "execs cons" => ((k_here; (with_reducible show wpAny _ _ _ _ _ (Shared.mk _ _ _ (_ + _) _)); refine gentoks 1 (by first | omega | (dsimp only; omega)) ?_; intro _ _)))
  (k_with "execs nil" => ((k_here; (with_reducible show wpAny _ _ _ _ _ (Shared.mk _ _ _ (_ + _) _)); refine gentoks 1 (by first | omega | (dsimp only; omega)) ?_; intro _ _)))
  (k_with "my sub" => (first | exact fun _ h => h | exact fun _ h => List.mem_cons_of_mem _ h | exact fun _ h => List.mem_cons_of_mem _ (List.mem_cons_of_mem _ h) | exact fun _ h => List.mem_cons_of_mem _ (List.mem_cons_of_mem _ (List.mem_cons_of_mem _ h))))
  (k_with "k_all" => (first | assumption | exact off_of (by assumption) (by omega)))
  (k_with "my le" => (first | exact le_of 0 rfl (by assumption) | exact le_of 1 rfl (by assumption) | exact le_of 2 rfl (by assumption) | exact le_of 3 rfl (by assumption) | exact le_of 6 rfl (by assumption) | exact le_of 4 rfl (by assumption) | exact le_of 5 rfl (by assumption)))
  trivial
noncomputable def signE (c : Str) : Str := if (Builtin.Str.occurrences (Str.ofString "*?[") c 0 (Str.ofString "*?[").length 1).isEmpty = false then Str.ofString "[" ++ c ++ Str.ofString "]" else c
noncomputable def signsOf (x : Str) : List Str := x.cps.toList.map (fun c => (⟨#[c]⟩ : Str))
noncomputable def escAll (x : Str) : Str := Txt.join (Str.ofString "") ((signsOf x).map signE)
theorem sign_one {x : Str} {i : Nat} {c : Str} (h : (signsOf x)[i]? = some c) : c.length = 1 := by
  unfold signsOf at h
  rw [List.getElem?_map] at h
  cases q : x.cps.toList[i]? with
  | none => rw [q] at h; cases h
  | some z => rw [q] at h; cases h; rfl
theorem signE_len {c : Str} (h : c.length = 1) : (signE c).length ≤ 3 := by
  unfold signE
  split
  · rw [Str.length_append, Str.length_append, h]
    have e1 : (Str.ofString "[").length = 1 := by decide +kernel
    have e2 : (Str.ofString "]").length = 1 := by decide +kernel
    omega
  · omega
theorem signs_sum : ∀ (l : List Str), (∀ c ∈ l, c.length = 1) → ((l.map signE).map (·.length)).sum ≤ 3 * l.length
  | [], _ => Nat.le_refl _
  | c :: r, h => by
    have h1 := signE_len (h c (.head _))
    have h2 := signs_sum r fun z hz => h z (.tail _ hz)
    simp only [List.map_cons, List.sum_cons, List.length_cons] at h2 ⊢
    omega
theorem signs_len (x : Str) : (signsOf x).length = x.length := by unfold signsOf; rw [List.length_map, Array.length_toList]; rfl
example : True := by
  (k_with "eval ListComp" => ((k_here; k_dflt (refine ListComp_S (F₀ := by k_asm) (by rfl) (by decide) (by rfl) (by decide) (by rfl) ?_))))
  (k_with "compareOp In str str" => (first | refine in_lit true (by rw [hoc]; rfl) ?_ | refine in_lit false (by rw [hoc]; rfl) ?_))
  trivial
namespace Hesc_con
noncomputable def Pre (w : World) (news : List (Addr × Obj)) (x : Str) (t : Tok) (cd : CD) : Prop :=
  (x.length ≤ 64) → cd.Ok 480 w 209 [.str x t] news (fun v news' => news' = news ∧ ∃ t', v = .str (escAll x) t')
noncomputable abbrev Dat : Type := World × (List (Addr × Obj)) × Str × Tok × CD
noncomputable def d₀ : Dat := (wd, [], (Str.ofString ""), (0 : Nat), CD.d)
@[irreducible] noncomputable def z₀ : Dat := eps d₀ fun z => ¬ Pre z.1 z.2.1 z.2.2.1 z.2.2.2.1 z.2.2.2.2
@[irreducible] noncomputable def w : World := z₀.1
@[irreducible] noncomputable def news : List (Addr × Obj) := z₀.2.1
@[irreducible] noncomputable def x : Str := z₀.2.2.1
@[irreducible] noncomputable def t : Tok := z₀.2.2.2.1
@[irreducible] noncomputable def cd : CD := z₀.2.2.2.2
@[irreducible] noncomputable def ent : (B : Heap → Addr → Heap → Prop) ×' ((∀ g L h, B g L h) → Pre w news x t cd) := by
  apply PSigma.mk
  intro hB
  intro hx hdp hun B F X N T hQ
  have hk : (⟨.function, cd.cnm, cd.cg, cd.cc, cd.cm⟩ : Scope).kind = .function := rfl
  refine wpAny_call ?_
  k_dflt (refine' code_frz ?k1 ?k2 ?k3 ?k4 ?k5 ?kA ?kF ?kK ?k6 ?k7 ?k8 ?k9 ?kB ?_ ?c2 ?c3 ?c4 ?c5; (case kA => exact rfl); (case kF => exact rfl); (case kK => first | exact rfl | assumption); (case k1 => k_asm); (case k2 => k_asm); (case k3 => k_asm); (case k4 => k_asm); (case k5 => k_asm); (case k6 => k_is); (case k7 => k_is); (case k8 => k_room); (case k9 => first | exact BindsTo.of_eq rfl | exact binds_K (by k_in) rfl (by k_is) rfl rfl rfl | fail "k_enter: no rule for these arguments"); (case c5 => decide); (case kB => exact locs rfl); (case c2 => exact rfl); (case c3 => exact rfl); (case c4 => exact rfl); k_whole; intro g1 L1 hp1 FG1 F1 N1 B1 X1 T1 hn1; (try dsimp only))
  clear hk
  revert hx hdp hun B F X N T hQ FG1 F1 N1 B1 X1 T1 hn1
  exact hB g1 L1 hp1
noncomputable abbrev Dat₂ : Type := Heap × Addr × Heap
@[irreducible] noncomputable def z₂ : Dat₂ := eps ({}, (0 : Nat), {}) fun z => ¬ ent.1 z.1 z.2.1 z.2.2
@[irreducible] noncomputable def g1 : Heap := z₂.1
@[irreducible] noncomputable def L1 : Addr := z₂.2.1
@[irreducible] noncomputable def hp1 : Heap := z₂.2.2
theorem body : ent.1 g1 L1 hp1 := by
  delta ent
  intro hx hdp hun B F X N T hQ FG1 F1 N1 B1 X1 T1 hn1
  have hk : (⟨.function, cd.cnm, cd.cg, cd.cc, cd.cm⟩ : Scope).kind = .function := rfl
  k_steps
  all_goals (try k_data)
  (rename Fr _ _ _ _ => lF'); (rename News _ _ _ _ => lN')
  have hsl := signs_len x
  with_unfolding_all refine SrcS.intro (l := signsOf x) rfl (by rfl) lF' lN' (by rw [hsl, sizeLine_eq]; omega) ?_
  clear lF' lN'
  intro gg
  refine cr_ind (fun i ys nw => nw = _ ∧ StrsAre ys (((signsOf x).take i).map signE) ∧ ys.length ≤ i) _ ?fin1 ?turn1 ⟨rfl, .nil, Nat.le_refl _⟩
  case turn1 =>
    intro k i ys nw v I oI C oC D m₂ h tk E' hik hj hP hC hx9 F3 N3 off3 ne3 next
    obtain ⟨rfl, hj, hjl⟩ := hj
    obtain ⟨c, u, hfc, rfl⟩ := hP
    have hc1 := sign_one hfc
    have hcS : Small c := by show c.length ≤ 64; omega
    cases hoc : (Builtin.Str.occurrences (Str.ofString "*?[") c 0 (Str.ofString "*?[").length 1).isEmpty with
    | false =>
      have he : signE c = Str.ofString "[" ++ c ++ Str.ofString "]" := if_pos hoc
      k_steps
      refine next _ _ ⟨rfl, ?_, ?_⟩
      · rw [take_map hfc, he]; exact kct_snoc hj
      · rw [List.length_append]; exact Nat.succ_le_succ hjl
    | true =>
      have he : signE c = c := if_neg (by rw [hoc]; exact Bool.noConfusion)
      k_steps
      refine next _ _ ⟨rfl, ?_, ?_⟩
      · rw [take_map hfc, he]; exact kct_snoc hj
      · rw [List.length_append]; exact Nat.succ_le_succ hjl
  case fin1 =>
    rintro ys1 nw ⟨rfl, hy1, hyl1⟩ D1' h tk F3 N3 off3
    rw [hsl, show x.length = (signsOf x).length from hsl.symm, List.take_length] at hy1
    k_steps
    (rename News _ _ _ _ => lN')
    have hz := lN' _ (.head _)
    have hsum := signs_sum (signsOf x) fun c hc => by
      obtain ⟨i, hi, e⟩ := List.mem_iff_getElem.mp hc
      exact sign_one (i := i) (by rw [List.getElem?_eq_getElem hi, e])
    refine join_listW (ys := (signsOf x).map signE) (items := ys1.toArray) ⟨_, hz.1, rfl, _, rfl⟩ hy1 (by decide) (by rw [List.length_map]; omega) ?_
    intro t9 k9
    k_steps
    intro hN
    exact hQ _ _ _ _ ⟨rfl, _, rfl⟩ (by assumption) hN
theorem main : Pre w news x t cd := PSigma.snd ent (eps_all3 (P := ent.1) (z := z₂) (by delta z₂; exact rfl) (by delta g1; exact rfl) (by delta L1; exact rfl) (by delta hp1; exact rfl) body)
end Hesc_con
theorem esc_con (w : World) (news : List (Addr × Obj)) (x : Str) (t : Tok) (hx : x.length ≤ 64) :
    Con 480 w 209 [.str x t] news (fun v news' => news' = news ∧ ∃ t', v = .str (escAll x) t') :=
  con_of fun c => eps_allz (z := Hesc_con.z₀) (P := fun z : Hesc_con.Dat => Hesc_con.Pre z.1 z.2.1 z.2.2.1 z.2.2.2.1 z.2.2.2.2) (by delta Hesc_con.z₀; exact rfl) (by with_unfolding_all exact Hesc_con.main) (w, news, x, t, c) hx
end
section
example : True := by
  k_with_none
  w_top off
  (k_with "ite" => (k_closed; (first | (refine ite_pos (by with_reducible assumption) ?_) | (refine ite_neg (by with_reducible assumption) ?_) | (refine ite_isFalse (by with_reducible assumption) ?_) | k_dflt (refine ite_pos (by decide) ?_) | k_dflt (refine ite_neg (by decide) ?_) | (refine ite_pos (by k_dec) ?_) | (refine ite_neg (by k_dec) ?_))))
  (k_with "k_room" => (first | exact room_of (by assumption) 0 rfl | exact room_of (by assumption) 1 rfl | exact room_of (by assumption) 2 rfl | exact room_of (by assumption) 3 rfl | exact room_of (by assumption) 4 rfl | exact room_of (by assumption) 5 rfl | exact room_of (by assumption) 6 rfl))
  (k_with "my enter" => ((first
    | (refine' code_def ?k1 ?k2 ?k3 ?k4 ?k5 ?kA ?kF ?kK ?k6 ?k7 ?k8 ?k9 ?kB ?_ ?c2 ?c3 ?c4 ?c5; (case kA => exact rfl); (case kF => exact rfl); (case kK => first | exact rfl | assumption); (case k1 => k_asm); (case k2 => k_asm); (case k3 => k_asm); (case k4 => k_asm); (case k5 => k_asm); (case k6 => k_is); (case k7 => k_is); (case k8 => k_room); (case k9 => first | exact BindsTo.of_eq rfl | exact binds_K (by k_in) rfl (by k_is) rfl rfl rfl | fail "k_enter: no rule for these arguments"); (case c5 => decide); (case kB => exact locs rfl); (case c2 => exact rfl); (case c3 => exact rfl); (case c4 => exact rfl); k_whole; intro g' L' h' FG' F' N' B' X' T'; (try dsimp only); (try k_lift B'); (try k_fold))
    | (refine' code_defC ?k1 ?k2 ?k3 ?k4 ?k5 ?kA ?kF ?kK ?k6 ?k7 ?k8 ?k9 ?kB ?kD ?_ ?c2 ?c3 ?c4; (case kA => exact rfl); (case kF => exact rfl); (case kK => first | exact rfl | assumption); (case k1 => k_asm); (case k2 => k_asm); (case k3 => k_asm); (case k4 => k_asm); (case k5 => k_asm); (case k6 => k_is); (case k7 => k_is); (case k8 => k_room); (case k9 => first | exact BindsTo.of_eq rfl | exact binds_K (by k_in) rfl (by k_is) rfl rfl rfl | fail "k_enter: no rule for these arguments"); (case kB => exact rfl); (case kD => decide +kernel); (case c2 => exact rfl); (case c3 => exact rfl); (case c4 => exact rfl); k_whole; intro g' L' h' tk' cells' FG' F' N' Y' B' X' T' l1; (try k_lt l1); k_cells Y'; (try simp only [List.cons_append, List.nil_append] at N'); (try dsimp only); (try k_lift B'); (try k_fold)))))
  (k_with "call builtin:len" => (((with_reducible show wpAny _ _ (call (Value.builtin _) [Value.str _ _]) _ _ _); refine len_str (by omega) ?_)))
  (k_with "exec For Name Name cons nil" => ((k_here; refine for_at ?_)))
  (k_with "SearchPost" => (((with_reducible show SearchPost _ _ _ _ _ _ _ _ _ (Flow.ret _) _); dsimp only [SearchPost])))
  (k_with "execs cons" => ((k_here; (with_reducible show wpAny _ _ _ _ _ (Shared.mk _ _ _ (_ + _) _)); refine gentoks 1 (by first | omega | (dsimp only; omega)) ?_; intro _ _)))
  (k_with "execs nil" => ((k_here; (with_reducible show wpAny _ _ _ _ _ (Shared.mk _ _ _ (_ + _) _)); refine gentoks 1 (by first | omega | (dsimp only; omega)) ?_; intro _ _)))
  (k_with "my sub" => (first | exact fun _ h => h | exact fun _ h => List.mem_cons_of_mem _ h | exact fun _ h => List.mem_cons_of_mem _ (List.mem_cons_of_mem _ h) | exact fun _ h => List.mem_cons_of_mem _ (List.mem_cons_of_mem _ (List.mem_cons_of_mem _ h))))
  (k_with "k_all" => (first | assumption | exact off_of (by assumption) (by omega)))
  (k_with "my le" => (first | exact le_of 0 rfl (by assumption) | exact le_of 1 rfl (by assumption) | exact le_of 2 rfl (by assumption) | exact le_of 3 rfl (by assumption) | exact le_of 6 rfl (by assumption) | exact le_of 4 rfl (by assumption) | exact le_of 5 rfl (by assumption)))
  trivial
/-- a contract of a def that may draw -/
noncomputable def ConD (b : Nat) (w : World) (f : Addr) (args : List Value) (news : List (Addr × Obj)) (Post : Value → List (Addr × Obj) → Prop) : Prop :=
  ∀ (dp un : Nat), dp ≤ b → un ≤ b → ∀ (gd : Option (List Code)) (cn : Str) (cs : Scope) (a : Addr) (ccd : Value) (cl : List (Str × Addr)) (outer : List Env) (A₀ : Around) (base h₀ : Heap) (L : Addr) (m : Str → Option Value) (s : Shared) (Q E : Value → Shared → Prop)
  (mean : ExcName → Option Value) (mg mb : Str → Option Value),
  Below A₀ base outer h₀ → Fr h₀ L s.heap m → (hd.heap_1 w.params).In h₀ → News h₀ L s.heap news → Top topProg TL mean mg mb h₀ → cs.kind = .function →
  (∀ v news' h' tk' d', Post v news' → Fr h₀ L h' m → News h₀ L h' news' → Q v { s with heap := h', toks := tk', drawn := d' }) →
  wpAny (model P w) (ktrTop dp un gd cn cs L a ccd cl outer) (call (.ref f) args) Q E s
noncomputable def CD.OkD (c : CD) (b : Nat) (w : World) (f : Addr) (args : List Value) (news : List (Addr × Obj)) (Post : Value → List (Addr × Obj) → Prop) : Prop :=
  c.dp ≤ b → c.un ≤ b → Below c.A₀ c.base c.outer c.h₀ → Fr c.h₀ c.L c.s.heap c.m → (hd.heap_1 w.params).In c.h₀ → News c.h₀ c.L c.s.heap news → Top topProg TL c.mean c.mg c.mb c.h₀ →
  (∀ v news' h' tk' d', Post v news' → Fr c.h₀ c.L h' c.m → News c.h₀ c.L h' news' → c.Q v { c.s with heap := h', toks := tk', drawn := d' }) →
  wpAny (model P w) (ktrTop c.dp c.un c.gd c.cn ⟨.function, c.cnm, c.cg, c.cc, c.cm⟩ c.L c.a c.ccd c.cl c.outer) (call (.ref f) args) c.Q c.E c.s
theorem conD_of {b : Nat} {w : World} {f : Addr} {args : List Value} {news : List (Addr × Obj)} {Post : Value → List (Addr × Obj) → Prop} (h : ∀ c : CD, c.OkD b w f args news Post) : ConD b w f args news Post := by
  intro dp un hdp hun gd cn cs a ccd cl outer A₀ base h₀ L m s Q E mean mg mb B F X N T hk hQ
  obtain ⟨ck, cnm, cg, cc, cm⟩ := cs
  dsimp only at hk
  subst hk
  exact h ⟨dp, un, gd, cn, cnm, cg, cc, cm, a, ccd, cl, outer, A₀, base, h₀, L, m, s, Q, E, mean, mg, mb⟩ hdp hun B F X N T hQ
/-- a dict of ints, by its map -/
noncomputable def DRel (kvs : List (Str × Value)) (f : Str → Option Int) : Prop := ∀ z, (f z = none → valueAt kvs z = none) ∧ (∀ r, f z = some r → ∃ t, valueAt kvs z = some (.int r t))
theorem drel_set {kvs : List (Str × Value)} {f : Str → Option Int} (h : DRel kvs f) {k : Str} {r : Int} {t : Tok} (hn : f k = none) : DRel (stored kvs k (.int r t)) (fun z => if z = k then some r else f z) := by
  have h0 := (h k).1 hn
  rw [stored_absent h0]
  intro z
  have e : valueAt (kvs ++ [(k, Value.int r t)]) z = (valueAt kvs z).or (if k = z then some (.int r t) else none) := by
    unfold valueAt
    rw [List.find?_append]
    cases q : kvs.find? (fun kv => decide (kv.1 = z)) with
    | some p => simp
    | none =>
      by_cases c : k = z
      · simp [c]
      · simp [c]
  rw [e]
  by_cases c : z = k
  · subst c
    refine ⟨fun q => by simp at q, fun r' q => ?_⟩
    simp at q; subst q
    exact ⟨t, by rw [h0]; simp⟩
  · have c' : ¬ k = z := fun q => c q.symm
    simp only [if_neg c, if_neg c', Option.or_none]
    exact h z
noncomputable def dotF (module y : Str) : Bool := Txt.startswith module (y ++ Str.ofString ".")
noncomputable def slF (file y : Str) : Bool := Txt.startswith file (y ++ Str.ofString "/")
noncomputable def freshF (ms fs : List Str) (file : Option Str) (module : Str) : Int :=
  if module ∈ ms then 1 else if (ms.any fun y => dotF module y) = true then 1 else match file with
  | none => 1
  | some fl => if (fs.any fun y => slF fl y) = true then 1 else 0
example : True := by
  (k_with "compareOp In str ref" => ((k_here; (with_reducible show wpAny _ _ (compareOp _ (Value.str _ _) (Value.ref ig)) _ _ _); (rename News _ _ _ _ => lN'); (k_dflt (refine kda_in (knd := PySem.strKind P w) lN' (.head _) hd hlo (strKind_is _ _ _ _) _ hb0 ?_)); (try dsimp only))))
  (k_with "compareOp In str ref" => ((k_here; (with_reducible show wpAny _ _ (compareOp _ (Value.str _ _) (Value.ref sm)) _ _ _); (rename News _ _ _ _ => lN'); (k_dflt (refine in_sl1 (own := [(ig, oig), (dl, lst ds nd)]) (knd := PySem.strKind P w) lN' hM1 hM2 (strKind_is _ _ _ _) rfl ?_)); (try dsimp only))))
  (k_with "getItem ref str" => ((k_here; (with_reducible show wpAny _ _ (getItem (Value.ref ig) _) _ _ _); (rename News _ _ _ _ => lN'); (k_dflt (refine wpAny_getItem_of (k := module) (strKind_is _ _ _ _) (kda_dict lN' (.head _) hd).mapOf hva ?_)); (try dsimp only))))
  (k_with "exec For Name Attribute cons nil" => ((k_here; refine for_at ?_ (by intro _; with_unfolding_all rfl))))
  (k_with "setItem ref str" => ((k_here; (with_reducible show wpAny _ _ (setItem (Value.ref ig) _ _) _ _ _); (rename Fr _ _ _ _ => lF'); (rename News _ _ _ _ => lN'); k_dflt (refine kda_set (knd := PySem.strKind P w) lF' lN' (.head hoff) hd (strKind_is _ _ _ _) (by rw [sizeLine_eq]; omega) ?_); clear lF' lN'; intro h8 oig8 F8 N8 hd8; (try dsimp only at N8))))
  trivial
namespace Hnames_conN
noncomputable def Pre (w : World) (x : Addr) (dx : Addr) (sm : Addr) (dl : Addr) (ig : Addr) (ta : Tok) (tb : Tok) (tc : Tok) (oig : Obj) (so : Obj) (kvs : List (Str × Value)) (f : Str → Option Int) (ms : List Str) (fs : List Str) (ds : List Value) (nd : Nat) (rest : List (Addr × Obj)) (module : Str) (t : Tok) (cd : CD) : Prop :=
  (∀ p ∈ (dl, lst ds nd) :: (sm, so) :: (x, instObj 103 dx) :: (dx, dxObj w ta tb tc sm dl ig) :: rest, p.1 ≠ ig) → ((ig == sysModules) = false) → (oig.IsDictOf (PySem.strKind P w) kvs) → (DRel kvs f) → (kvs.length ≤ 64) → (Mods w so ms) → (StrsAre ds fs) → (∀ y ∈ ms, Small y) → (∀ y ∈ fs, Small y) → (Small module) → cd.OkD 440 w 100 [.ref x, .none, .str module t] ((ig, oig) :: (dl, lst ds nd) :: (sm, so) :: (x, instObj 103 dx) :: (dx, dxObj w ta tb tc sm dl ig) :: rest)
      (fun v news' => ∃ r tr kvs' oig' f', v = .int r tr ∧ news' = (ig, oig') :: (dl, lst ds nd) :: (sm, so) :: (x, instObj 103 dx) :: (dx, dxObj w ta tb tc sm dl ig) :: rest ∧ oig'.IsDictOf (PySem.strKind P w) kvs' ∧ DRel kvs' f' ∧ kvs'.length ≤ kvs.length + 1 ∧
        ((f module = some r ∧ f' = f) ∨ (f module = none ∧ r = freshF ms fs none module ∧ f' = fun z => if z = module then some r else f z)))
noncomputable abbrev Dat : Type := World × Addr × Addr × Addr × Addr × Addr × Tok × Tok × Tok × Obj × Obj × (List (Str × Value)) × (Str → Option Int) × (List Str) × (List Str) × (List Value) × Nat × (List (Addr × Obj)) × Str × Tok × CD
noncomputable def d₀ : Dat := (wd, (0 : Nat), (0 : Nat), (0 : Nat), (0 : Nat), (0 : Nat), (0 : Nat), (0 : Nat), (0 : Nat), default, default, [], default, [], [], [], 0, [], (Str.ofString ""), (0 : Nat), CD.d)
@[irreducible] noncomputable def z₀ : Dat := eps d₀ fun z => ¬ Pre z.1 z.2.1 z.2.2.1 z.2.2.2.1 z.2.2.2.2.1 z.2.2.2.2.2.1 z.2.2.2.2.2.2.1 z.2.2.2.2.2.2.2.1 z.2.2.2.2.2.2.2.2.1 z.2.2.2.2.2.2.2.2.2.1 z.2.2.2.2.2.2.2.2.2.2.1 z.2.2.2.2.2.2.2.2.2.2.2.1 z.2.2.2.2.2.2.2.2.2.2.2.2.1 z.2.2.2.2.2.2.2.2.2.2.2.2.2.1 z.2.2.2.2.2.2.2.2.2.2.2.2.2.2.1 z.2.2.2.2.2.2.2.2.2.2.2.2.2.2.2.1 z.2.2.2.2.2.2.2.2.2.2.2.2.2.2.2.2.1 z.2.2.2.2.2.2.2.2.2.2.2.2.2.2.2.2.2.1 z.2.2.2.2.2.2.2.2.2.2.2.2.2.2.2.2.2.2.1 z.2.2.2.2.2.2.2.2.2.2.2.2.2.2.2.2.2.2.2.1 z.2.2.2.2.2.2.2.2.2.2.2.2.2.2.2.2.2.2.2.2
@[irreducible] noncomputable def w : World := z₀.1
@[irreducible] noncomputable def x : Addr := z₀.2.1
@[irreducible] noncomputable def dx : Addr := z₀.2.2.1
@[irreducible] noncomputable def sm : Addr := z₀.2.2.2.1
@[irreducible] noncomputable def dl : Addr := z₀.2.2.2.2.1
@[irreducible] noncomputable def ig : Addr := z₀.2.2.2.2.2.1
@[irreducible] noncomputable def ta : Tok := z₀.2.2.2.2.2.2.1
@[irreducible] noncomputable def tb : Tok := z₀.2.2.2.2.2.2.2.1
@[irreducible] noncomputable def tc : Tok := z₀.2.2.2.2.2.2.2.2.1
@[irreducible] noncomputable def oig : Obj := z₀.2.2.2.2.2.2.2.2.2.1
@[irreducible] noncomputable def so : Obj := z₀.2.2.2.2.2.2.2.2.2.2.1
@[irreducible] noncomputable def kvs : List (Str × Value) := z₀.2.2.2.2.2.2.2.2.2.2.2.1
@[irreducible] noncomputable def f : Str → Option Int := z₀.2.2.2.2.2.2.2.2.2.2.2.2.1
@[irreducible] noncomputable def ms : List Str := z₀.2.2.2.2.2.2.2.2.2.2.2.2.2.1
@[irreducible] noncomputable def fs : List Str := z₀.2.2.2.2.2.2.2.2.2.2.2.2.2.2.1
@[irreducible] noncomputable def ds : List Value := z₀.2.2.2.2.2.2.2.2.2.2.2.2.2.2.2.1
@[irreducible] noncomputable def nd : Nat := z₀.2.2.2.2.2.2.2.2.2.2.2.2.2.2.2.2.1
@[irreducible] noncomputable def rest : List (Addr × Obj) := z₀.2.2.2.2.2.2.2.2.2.2.2.2.2.2.2.2.2.1
@[irreducible] noncomputable def module : Str := z₀.2.2.2.2.2.2.2.2.2.2.2.2.2.2.2.2.2.2.1
@[irreducible] noncomputable def t : Tok := z₀.2.2.2.2.2.2.2.2.2.2.2.2.2.2.2.2.2.2.2.1
@[irreducible] noncomputable def cd : CD := z₀.2.2.2.2.2.2.2.2.2.2.2.2.2.2.2.2.2.2.2.2
@[irreducible] noncomputable def ent : (B : Heap → Addr → Heap → Prop) ×' ((∀ g L h, B g L h) → Pre w x dx sm dl ig ta tb tc oig so kvs f ms fs ds nd rest module t cd) := by
  apply PSigma.mk
  intro hB
  intro hoff hlo hd hf hkl hM hds hms hfs hmo hdp hun B F X N T hQ
  have hk : (⟨.function, cd.cnm, cd.cg, cd.cc, cd.cm⟩ : Scope).kind = .function := rfl
  refine wpAny_call ?_
  k_dflt (refine' code_def ?k1 ?k2 ?k3 ?k4 ?k5 ?kA ?kF ?kK ?k6 ?k7 ?k8 ?k9 ?kB ?_ ?c2 ?c3 ?c4 ?c5; (case kA => exact rfl); (case kF => exact rfl); (case kK => first | exact rfl | assumption); (case k1 => k_asm); (case k2 => k_asm); (case k3 => k_asm); (case k4 => k_asm); (case k5 => k_asm); (case k6 => k_is); (case k7 => k_is); (case k8 => k_room); (case k9 => first | exact BindsTo.of_eq rfl | exact binds_K (by k_in) rfl (by k_is) rfl rfl rfl | fail "k_enter: no rule for these arguments"); (case c5 => decide); (case kB => exact locs rfl); (case c2 => exact rfl); (case c3 => exact rfl); (case c4 => exact rfl); k_whole; intro g1 L1 hp1 FG1 F1 N1 B1 X1 T1; (try dsimp only))
  clear hk
  revert hoff hlo hd hf hkl hM hds hms hfs hmo hdp hun B F X N T hQ FG1 F1 N1 B1 X1 T1
  exact hB g1 L1 hp1
noncomputable abbrev Dat₂ : Type := Heap × Addr × Heap
@[irreducible] noncomputable def z₂ : Dat₂ := eps ({}, (0 : Nat), {}) fun z => ¬ ent.1 z.1 z.2.1 z.2.2
@[irreducible] noncomputable def g1 : Heap := z₂.1
@[irreducible] noncomputable def L1 : Addr := z₂.2.1
@[irreducible] noncomputable def hp1 : Heap := z₂.2.2
theorem body : ent.1 g1 L1 hp1 := by
  delta ent
  intro hoff hlo hd hf hkl hM hds hms hfs hmo hdp hun B F X N T hQ FG1 F1 N1 B1 X1 T1
  have hk : (⟨.function, cd.cnm, cd.cg, cd.cc, cd.cm⟩ : Scope).kind = .function := rfl
  obtain ⟨⟨nS, hM1, hM3⟩, es9, ep9, t9, hM4, hM5, hM6⟩ := hM
  have hM2 : nS < scanBound := by unfold scanBound; omega
  cases hfm : f module with
  | some r =>
    obtain ⟨tr, hva⟩ := (hf module).2 r hfm
    have hb0 : (valueAt kvs module).isSome = true := by rw [hva]; rfl
    k_steps
    exact hQ _ _ _ _ _ ⟨r, tr, kvs, oig, f, rfl, rfl, hd, hf, Nat.le_succ _, .inl ⟨hfm, rfl⟩⟩ (by assumption) (by assumption)
  | none =>
    have hva := (hf module).1 hfm
    have hb0 : (valueAt kvs module).isSome = false := by rw [hva]; rfl
    have hst : (stored kvs module (.int 0 0)).length = kvs.length + 1 := by rw [stored_absent hva, List.length_append]; rfl
    have hstl : ∀ v, (stored kvs module v).length ≤ kvs.length + 1 := fun v => by rw [stored_absent hva, List.length_append]; exact Nat.le_refl _
    k_steps
    · refine hQ _ _ _ _ _ ⟨1, _, _, _, _, rfl, rfl, by assumption, drel_set hf hfm, hstl _, .inr ⟨hfm, ?_, rfl⟩⟩ (by assumption) (by assumption)
      have hmem : module ∈ ms := by first | assumption | exact of_decide_eq_true (by assumption)
      unfold freshF; rw [if_pos hmem]
    · have hnm : ¬ module ∈ ms := by first | assumption | exact of_decide_eq_false (by assumption)
      (rename Fr g1 L1 _ _ => lF'); (rename News g1 L1 _ _ => lN')
      with_unfolding_all refine forAt_set (ms := ms) (fun y => dotF module y = false) hM4 hM5 hM6 (.tail _ (.tail _ (.head _))) rfl rfl rfl lF' lN' ?turn ?done (by passes_own)
      case turn =>
        clear lF' lN'
        intro y ty it I nx h tk d hy hsub F3 N3
        have hys : Small y := hms y hy
        have N4 := (fun p hp => N3 p (.tail _ (hsub p hp)) : News g1 L1 h ((ig, oig) :: (dl, lst ds nd) :: (sm, so) :: (x, instObj 103 dx) :: (dx, dxObj w ta tb tc sm dl ig) :: rest))
        have hid : ∃ _ : Unit, News g1 L1 h ((I, it) :: nx) := ⟨(), N3⟩
        have F4 : Fr g1 L1 h _ := F3
        clear N3 F3
        k_steps
        · refine hQ _ _ _ _ _ ⟨1, _, _, _, _, rfl, rfl, by assumption, drel_set hf hfm, hstl _, .inr ⟨hfm, ?_, rfl⟩⟩ (by assumption) (by assumption)
          unfold freshF
          rw [if_neg hnm, if_pos (List.any_eq_true.mpr ⟨y, hy, by assumption⟩)]
        · (rename Fr g1 L1 _ _ => lF')
          exact ⟨_, _, _, _, rfl, lF', (match hid with | ⟨_, q⟩ => q), fun _ h => h, by assumption, fun z hz _ => if_neg hz⟩
      case done =>
        clear lF' lN'
        intro u h tk d hP F3 N3
        have hany : (ms.any fun y => dotF module y) = false := by
          rw [List.any_eq_false]; intro y hy; rw [hP y hy]; exact Bool.false_ne_true
        have N4 : News g1 L1 h ((ig, oig) :: (dl, lst ds nd) :: (sm, so) :: (x, instObj 103 dx) :: (dx, dxObj w ta tb tc sm dl ig) :: rest) := N3
        have F4 : Fr g1 L1 h _ := F3
        clear N3 F3
        k_steps
        refine hQ _ _ _ _ _ ⟨1, _, _, _, _, rfl, rfl, by assumption, drel_set hf hfm, hstl _, .inr ⟨hfm, ?_, rfl⟩⟩ (by assumption) (by assumption)
        unfold freshF
        rw [if_neg hnm, if_neg (by rw [hany]; exact Bool.false_ne_true)]
theorem main : Pre w x dx sm dl ig ta tb tc oig so kvs f ms fs ds nd rest module t cd := PSigma.snd ent (eps_all3 (P := ent.1) (z := z₂) (by delta z₂; exact rfl) (by delta g1; exact rfl) (by delta L1; exact rfl) (by delta hp1; exact rfl) body)
end Hnames_conN
theorem names_conN (w : World) (x dx sm dl ig : Addr) (ta tb tc : Tok) (oig so : Obj) (kvs : List (Str × Value)) (f : Str → Option Int) (ms fs : List Str) (ds : List Value) (nd : Nat) (rest : List (Addr × Obj)) (module : Str) (t : Tok)
    (hoff : ∀ p ∈ (dl, lst ds nd) :: (sm, so) :: (x, instObj 103 dx) :: (dx, dxObj w ta tb tc sm dl ig) :: rest, p.1 ≠ ig) (hlo : (ig == sysModules) = false) (hd : oig.IsDictOf (PySem.strKind P w) kvs) (hf : DRel kvs f) (hkl : kvs.length ≤ 64) (hM : Mods w so ms) (hds : StrsAre ds fs) (hms : ∀ y ∈ ms, Small y) (hfs : ∀ y ∈ fs, Small y) (hmo : Small module) :
    ConD 440 w 100 [.ref x, .none, .str module t] ((ig, oig) :: (dl, lst ds nd) :: (sm, so) :: (x, instObj 103 dx) :: (dx, dxObj w ta tb tc sm dl ig) :: rest)
      (fun v news' => ∃ r tr kvs' oig' f', v = .int r tr ∧ news' = (ig, oig') :: (dl, lst ds nd) :: (sm, so) :: (x, instObj 103 dx) :: (dx, dxObj w ta tb tc sm dl ig) :: rest ∧ oig'.IsDictOf (PySem.strKind P w) kvs' ∧ DRel kvs' f' ∧ kvs'.length ≤ kvs.length + 1 ∧
        ((f module = some r ∧ f' = f) ∨ (f module = none ∧ r = freshF ms fs none module ∧ f' = fun z => if z = module then some r else f z))) :=
  conD_of fun c => eps_allz (z := Hnames_conN.z₀) (P := fun z : Hnames_conN.Dat => Hnames_conN.Pre z.1 z.2.1 z.2.2.1 z.2.2.2.1 z.2.2.2.2.1 z.2.2.2.2.2.1 z.2.2.2.2.2.2.1 z.2.2.2.2.2.2.2.1 z.2.2.2.2.2.2.2.2.1 z.2.2.2.2.2.2.2.2.2.1 z.2.2.2.2.2.2.2.2.2.2.1 z.2.2.2.2.2.2.2.2.2.2.2.1 z.2.2.2.2.2.2.2.2.2.2.2.2.1 z.2.2.2.2.2.2.2.2.2.2.2.2.2.1 z.2.2.2.2.2.2.2.2.2.2.2.2.2.2.1 z.2.2.2.2.2.2.2.2.2.2.2.2.2.2.2.1 z.2.2.2.2.2.2.2.2.2.2.2.2.2.2.2.2.1 z.2.2.2.2.2.2.2.2.2.2.2.2.2.2.2.2.2.1 z.2.2.2.2.2.2.2.2.2.2.2.2.2.2.2.2.2.2.1 z.2.2.2.2.2.2.2.2.2.2.2.2.2.2.2.2.2.2.2.1 z.2.2.2.2.2.2.2.2.2.2.2.2.2.2.2.2.2.2.2.2) (by delta Hnames_conN.z₀; exact rfl) (by with_unfolding_all exact Hnames_conN.main) (w, x, dx, sm, dl, ig, ta, tb, tc, oig, so, kvs, f, ms, fs, ds, nd, rest, module, t, c) hoff hlo hd hf hkl hM hds hms hfs hmo
namespace Hnames_conS
noncomputable def Pre (w : World) (x : Addr) (dx : Addr) (sm : Addr) (dl : Addr) (ig : Addr) (ta : Tok) (tb : Tok) (tc : Tok) (oig : Obj) (so : Obj) (kvs : List (Str × Value)) (f : Str → Option Int) (ms : List Str) (fs : List Str) (ds : List Value) (nd : Nat) (rest : List (Addr × Obj)) (module : Str) (t : Tok) (fl : Str) (tfl : Tok) (cd : CD) : Prop :=
  (Small fl) → (∀ p ∈ (dl, lst ds nd) :: (sm, so) :: (x, instObj 103 dx) :: (dx, dxObj w ta tb tc sm dl ig) :: rest, p.1 ≠ ig) → ((ig == sysModules) = false) → (oig.IsDictOf (PySem.strKind P w) kvs) → (DRel kvs f) → (kvs.length ≤ 64) → (Mods w so ms) → (StrsAre ds fs) → (∀ y ∈ ms, Small y) → (∀ y ∈ fs, Small y) → (Small module) → cd.OkD 440 w 100 [.ref x, .str fl tfl, .str module t] ((ig, oig) :: (dl, lst ds nd) :: (sm, so) :: (x, instObj 103 dx) :: (dx, dxObj w ta tb tc sm dl ig) :: rest)
      (fun v news' => ∃ r tr kvs' oig' f', v = .int r tr ∧ news' = (ig, oig') :: (dl, lst ds nd) :: (sm, so) :: (x, instObj 103 dx) :: (dx, dxObj w ta tb tc sm dl ig) :: rest ∧ oig'.IsDictOf (PySem.strKind P w) kvs' ∧ DRel kvs' f' ∧ kvs'.length ≤ kvs.length + 1 ∧
        ((f module = some r ∧ f' = f) ∨ (f module = none ∧ r = freshF ms fs (some fl) module ∧ f' = fun z => if z = module then some r else f z)))
noncomputable abbrev Dat : Type := World × Addr × Addr × Addr × Addr × Addr × Tok × Tok × Tok × Obj × Obj × (List (Str × Value)) × (Str → Option Int) × (List Str) × (List Str) × (List Value) × Nat × (List (Addr × Obj)) × Str × Tok × Str × Tok × CD
noncomputable def d₀ : Dat := (wd, (0 : Nat), (0 : Nat), (0 : Nat), (0 : Nat), (0 : Nat), (0 : Nat), (0 : Nat), (0 : Nat), default, default, [], default, [], [], [], 0, [], (Str.ofString ""), (0 : Nat), (Str.ofString ""), (0 : Nat), CD.d)
@[irreducible] noncomputable def z₀ : Dat := eps d₀ fun z => ¬ Pre z.1 z.2.1 z.2.2.1 z.2.2.2.1 z.2.2.2.2.1 z.2.2.2.2.2.1 z.2.2.2.2.2.2.1 z.2.2.2.2.2.2.2.1 z.2.2.2.2.2.2.2.2.1 z.2.2.2.2.2.2.2.2.2.1 z.2.2.2.2.2.2.2.2.2.2.1 z.2.2.2.2.2.2.2.2.2.2.2.1 z.2.2.2.2.2.2.2.2.2.2.2.2.1 z.2.2.2.2.2.2.2.2.2.2.2.2.2.1 z.2.2.2.2.2.2.2.2.2.2.2.2.2.2.1 z.2.2.2.2.2.2.2.2.2.2.2.2.2.2.2.1 z.2.2.2.2.2.2.2.2.2.2.2.2.2.2.2.2.1 z.2.2.2.2.2.2.2.2.2.2.2.2.2.2.2.2.2.1 z.2.2.2.2.2.2.2.2.2.2.2.2.2.2.2.2.2.2.1 z.2.2.2.2.2.2.2.2.2.2.2.2.2.2.2.2.2.2.2.1 z.2.2.2.2.2.2.2.2.2.2.2.2.2.2.2.2.2.2.2.2.1 z.2.2.2.2.2.2.2.2.2.2.2.2.2.2.2.2.2.2.2.2.2.1 z.2.2.2.2.2.2.2.2.2.2.2.2.2.2.2.2.2.2.2.2.2.2
@[irreducible] noncomputable def w : World := z₀.1
@[irreducible] noncomputable def x : Addr := z₀.2.1
@[irreducible] noncomputable def dx : Addr := z₀.2.2.1
@[irreducible] noncomputable def sm : Addr := z₀.2.2.2.1
@[irreducible] noncomputable def dl : Addr := z₀.2.2.2.2.1
@[irreducible] noncomputable def ig : Addr := z₀.2.2.2.2.2.1
@[irreducible] noncomputable def ta : Tok := z₀.2.2.2.2.2.2.1
@[irreducible] noncomputable def tb : Tok := z₀.2.2.2.2.2.2.2.1
@[irreducible] noncomputable def tc : Tok := z₀.2.2.2.2.2.2.2.2.1
@[irreducible] noncomputable def oig : Obj := z₀.2.2.2.2.2.2.2.2.2.1
@[irreducible] noncomputable def so : Obj := z₀.2.2.2.2.2.2.2.2.2.2.1
@[irreducible] noncomputable def kvs : List (Str × Value) := z₀.2.2.2.2.2.2.2.2.2.2.2.1
@[irreducible] noncomputable def f : Str → Option Int := z₀.2.2.2.2.2.2.2.2.2.2.2.2.1
@[irreducible] noncomputable def ms : List Str := z₀.2.2.2.2.2.2.2.2.2.2.2.2.2.1
@[irreducible] noncomputable def fs : List Str := z₀.2.2.2.2.2.2.2.2.2.2.2.2.2.2.1
@[irreducible] noncomputable def ds : List Value := z₀.2.2.2.2.2.2.2.2.2.2.2.2.2.2.2.1
@[irreducible] noncomputable def nd : Nat := z₀.2.2.2.2.2.2.2.2.2.2.2.2.2.2.2.2.1
@[irreducible] noncomputable def rest : List (Addr × Obj) := z₀.2.2.2.2.2.2.2.2.2.2.2.2.2.2.2.2.2.1
@[irreducible] noncomputable def module : Str := z₀.2.2.2.2.2.2.2.2.2.2.2.2.2.2.2.2.2.2.1
@[irreducible] noncomputable def t : Tok := z₀.2.2.2.2.2.2.2.2.2.2.2.2.2.2.2.2.2.2.2.1
@[irreducible] noncomputable def fl : Str := z₀.2.2.2.2.2.2.2.2.2.2.2.2.2.2.2.2.2.2.2.2.1
@[irreducible] noncomputable def tfl : Tok := z₀.2.2.2.2.2.2.2.2.2.2.2.2.2.2.2.2.2.2.2.2.2.1
@[irreducible] noncomputable def cd : CD := z₀.2.2.2.2.2.2.2.2.2.2.2.2.2.2.2.2.2.2.2.2.2.2
@[irreducible] noncomputable def ent : (B : Heap → Addr → Heap → Prop) ×' ((∀ g L h, B g L h) → Pre w x dx sm dl ig ta tb tc oig so kvs f ms fs ds nd rest module t fl tfl cd) := by
  apply PSigma.mk
  intro hB
  intro hflS hoff hlo hd hf hkl hM hds hms hfs hmo hdp hun B F X N T hQ
  have hk : (⟨.function, cd.cnm, cd.cg, cd.cc, cd.cm⟩ : Scope).kind = .function := rfl
  refine wpAny_call ?_
  k_dflt (refine' code_def ?k1 ?k2 ?k3 ?k4 ?k5 ?kA ?kF ?kK ?k6 ?k7 ?k8 ?k9 ?kB ?_ ?c2 ?c3 ?c4 ?c5; (case kA => exact rfl); (case kF => exact rfl); (case kK => first | exact rfl | assumption); (case k1 => k_asm); (case k2 => k_asm); (case k3 => k_asm); (case k4 => k_asm); (case k5 => k_asm); (case k6 => k_is); (case k7 => k_is); (case k8 => k_room); (case k9 => first | exact BindsTo.of_eq rfl | exact binds_K (by k_in) rfl (by k_is) rfl rfl rfl | fail "k_enter: no rule for these arguments"); (case c5 => decide); (case kB => exact locs rfl); (case c2 => exact rfl); (case c3 => exact rfl); (case c4 => exact rfl); k_whole; intro g1 L1 hp1 FG1 F1 N1 B1 X1 T1; (try dsimp only))
  clear hk
  revert hflS hoff hlo hd hf hkl hM hds hms hfs hmo hdp hun B F X N T hQ FG1 F1 N1 B1 X1 T1
  exact hB g1 L1 hp1
noncomputable abbrev Dat₂ : Type := Heap × Addr × Heap
@[irreducible] noncomputable def z₂ : Dat₂ := eps ({}, (0 : Nat), {}) fun z => ¬ ent.1 z.1 z.2.1 z.2.2
@[irreducible] noncomputable def g1 : Heap := z₂.1
@[irreducible] noncomputable def L1 : Addr := z₂.2.1
@[irreducible] noncomputable def hp1 : Heap := z₂.2.2
theorem body : ent.1 g1 L1 hp1 := by
  delta ent
  intro hflS hoff hlo hd hf hkl hM hds hms hfs hmo hdp hun B F X N T hQ FG1 F1 N1 B1 X1 T1
  have hk : (⟨.function, cd.cnm, cd.cg, cd.cc, cd.cm⟩ : Scope).kind = .function := rfl
  obtain ⟨⟨nS, hM1, hM3⟩, es9, ep9, t9, hM4, hM5, hM6⟩ := hM
  have hM2 : nS < scanBound := by unfold scanBound; omega
  cases hfm : f module with
  | some r =>
    obtain ⟨tr, hva⟩ := (hf module).2 r hfm
    have hb0 : (valueAt kvs module).isSome = true := by rw [hva]; rfl
    k_steps
    exact hQ _ _ _ _ _ ⟨r, tr, kvs, oig, f, rfl, rfl, hd, hf, Nat.le_succ _, .inl ⟨hfm, rfl⟩⟩ (by assumption) (by assumption)
  | none =>
    have hva := (hf module).1 hfm
    have hb0 : (valueAt kvs module).isSome = false := by rw [hva]; rfl
    have hst : (stored kvs module (.int 0 0)).length = kvs.length + 1 := by rw [stored_absent hva, List.length_append]; rfl
    have hstl : ∀ v, (stored kvs module v).length ≤ kvs.length + 1 := fun v => by rw [stored_absent hva, List.length_append]; exact Nat.le_refl _
    k_steps
    · refine hQ _ _ _ _ _ ⟨1, _, _, _, _, rfl, rfl, by assumption, drel_set hf hfm, hstl _, .inr ⟨hfm, ?_, rfl⟩⟩ (by assumption) (by assumption)
      have hmem : module ∈ ms := by first | assumption | exact of_decide_eq_true (by assumption)
      unfold freshF; rw [if_pos hmem]
    · have hnm : ¬ module ∈ ms := by first | assumption | exact of_decide_eq_false (by assumption)
      (rename Fr g1 L1 _ _ => lF'); (rename News g1 L1 _ _ => lN')
      with_unfolding_all refine forAt_set (ms := ms) (fun y => dotF module y = false) hM4 hM5 hM6 (.tail _ (.tail _ (.head _))) rfl rfl rfl lF' lN' ?turn ?done (by passes_own)
      case turn =>
        clear lF' lN'
        intro y ty it I nx h tk d hy hsub F3 N3
        have hys : Small y := hms y hy
        have N4 := (fun p hp => N3 p (.tail _ (hsub p hp)) : News g1 L1 h ((ig, oig) :: (dl, lst ds nd) :: (sm, so) :: (x, instObj 103 dx) :: (dx, dxObj w ta tb tc sm dl ig) :: rest))
        have hid : ∃ _ : Unit, News g1 L1 h ((I, it) :: nx) := ⟨(), N3⟩
        have F4 : Fr g1 L1 h _ := F3
        clear N3 F3
        k_steps
        · refine hQ _ _ _ _ _ ⟨1, _, _, _, _, rfl, rfl, by assumption, drel_set hf hfm, hstl _, .inr ⟨hfm, ?_, rfl⟩⟩ (by assumption) (by assumption)
          unfold freshF
          rw [if_neg hnm, if_pos (List.any_eq_true.mpr ⟨y, hy, by assumption⟩)]
        · (rename Fr g1 L1 _ _ => lF')
          exact ⟨_, _, _, _, rfl, lF', (match hid with | ⟨_, q⟩ => q), fun _ h => h, by assumption, fun z hz _ => if_neg hz⟩
      case done =>
        clear lF' lN'
        intro u h tk d hP F3 N3
        have hany : (ms.any fun y => dotF module y) = false := by
          rw [List.any_eq_false]; intro y hy; rw [hP y hy]; exact Bool.false_ne_true
        have N4 : News g1 L1 h ((ig, oig) :: (dl, lst ds nd) :: (sm, so) :: (x, instObj 103 dx) :: (dx, dxObj w ta tb tc sm dl ig) :: rest) := N3
        have F4 : Fr g1 L1 h _ := F3
        clear N3 F3
        k_steps
        (rename Fr g1 L1 _ _ => lF'); (rename News g1 L1 _ _ => lN')
        have hn9 : (none : Option Str) = none := rfl
        with_unfolding_all refine forAt_search (ms := fs) (lo := lst ds nd) (ax := dl) (vs := ds) (n := nd) (fun y => slF fl y = false) [] rfl rfl rfl lF' lN' (.tail _ (.head _)) rfl rfl hds ?turn2 ?done2 (by passes_own)
        case turn2 =>
          clear lF' lN'
          intro y ty u2 it I h tk hy htk F3 N3
          have hys : Small y := hfs y hy
          have N4 := (fun p hp => N3 p (.tail _ hp) : News g1 L1 h ((ig, oig) :: (dl, lst ds nd) :: (sm, so) :: (x, instObj 103 dx) :: (dx, dxObj w ta tb tc sm dl ig) :: rest))
          have hid : ∃ _ : Unit, News g1 L1 h ((I, it) :: (ig, oig) :: (dl, lst ds nd) :: (sm, so) :: (x, instObj 103 dx) :: (dx, dxObj w ta tb tc sm dl ig) :: rest) := ⟨(), N3⟩
          have F4 : Fr g1 L1 h _ := F3
          clear N3 F3
          k_steps
          · refine hQ _ _ _ _ _ ⟨1, _, _, _, _, rfl, rfl, by assumption, drel_set hf hfm, hstl _, .inr ⟨hfm, ?_, rfl⟩⟩ (by assumption) (by assumption)
            unfold freshF
            rw [if_neg hnm, if_neg (by rw [hany]; exact Bool.false_ne_true)]
            exact (if_pos (List.any_eq_true.mpr ⟨y, hy, by assumption⟩)).symm
          · (rename Fr g1 L1 _ _ => lF')
            exact ⟨_, _, _, _, rfl, lF', (match hid with | ⟨_, q⟩ => q), fun _ h => h, by assumption, fun z hz _ => by simp [hz]⟩
        case done2 =>
          clear lF' lN'
          intro u2 h tk hP2 htk F3 N3
          have hany2 : (fs.any fun y => slF fl y) = false := by
            rw [List.any_eq_false]; intro y hy; rw [hP2 y hy]; exact Bool.false_ne_true
          have N4 : News g1 L1 h ((ig, oig) :: (dl, lst ds nd) :: (sm, so) :: (x, instObj 103 dx) :: (dx, dxObj w ta tb tc sm dl ig) :: rest) := N3
          have F4 : Fr g1 L1 h _ := F3
          clear N3 F3
          k_steps
          refine hQ _ _ _ _ _ ⟨0, _, _, _, _, rfl, rfl, by assumption, drel_set hf hfm, hstl _, .inr ⟨hfm, ?_, rfl⟩⟩ (by assumption) (by assumption)
          unfold freshF
          rw [if_neg hnm, if_neg (by rw [hany]; exact Bool.false_ne_true)]
          exact (if_neg (by rw [hany2]; exact Bool.false_ne_true)).symm
theorem main : Pre w x dx sm dl ig ta tb tc oig so kvs f ms fs ds nd rest module t fl tfl cd := PSigma.snd ent (eps_all3 (P := ent.1) (z := z₂) (by delta z₂; exact rfl) (by delta g1; exact rfl) (by delta L1; exact rfl) (by delta hp1; exact rfl) body)
end Hnames_conS
theorem names_conS (w : World) (x dx sm dl ig : Addr) (ta tb tc : Tok) (oig so : Obj) (kvs : List (Str × Value)) (f : Str → Option Int) (ms fs : List Str) (ds : List Value) (nd : Nat) (rest : List (Addr × Obj)) (module : Str) (t : Tok) (fl : Str) (tfl : Tok) (hflS : Small fl)
    (hoff : ∀ p ∈ (dl, lst ds nd) :: (sm, so) :: (x, instObj 103 dx) :: (dx, dxObj w ta tb tc sm dl ig) :: rest, p.1 ≠ ig) (hlo : (ig == sysModules) = false) (hd : oig.IsDictOf (PySem.strKind P w) kvs) (hf : DRel kvs f) (hkl : kvs.length ≤ 64) (hM : Mods w so ms) (hds : StrsAre ds fs) (hms : ∀ y ∈ ms, Small y) (hfs : ∀ y ∈ fs, Small y) (hmo : Small module) :
    ConD 440 w 100 [.ref x, .str fl tfl, .str module t] ((ig, oig) :: (dl, lst ds nd) :: (sm, so) :: (x, instObj 103 dx) :: (dx, dxObj w ta tb tc sm dl ig) :: rest)
      (fun v news' => ∃ r tr kvs' oig' f', v = .int r tr ∧ news' = (ig, oig') :: (dl, lst ds nd) :: (sm, so) :: (x, instObj 103 dx) :: (dx, dxObj w ta tb tc sm dl ig) :: rest ∧ oig'.IsDictOf (PySem.strKind P w) kvs' ∧ DRel kvs' f' ∧ kvs'.length ≤ kvs.length + 1 ∧
        ((f module = some r ∧ f' = f) ∨ (f module = none ∧ r = freshF ms fs (some fl) module ∧ f' = fun z => if z = module then some r else f z))) :=
  conD_of fun c => eps_allz (z := Hnames_conS.z₀) (P := fun z : Hnames_conS.Dat => Hnames_conS.Pre z.1 z.2.1 z.2.2.1 z.2.2.2.1 z.2.2.2.2.1 z.2.2.2.2.2.1 z.2.2.2.2.2.2.1 z.2.2.2.2.2.2.2.1 z.2.2.2.2.2.2.2.2.1 z.2.2.2.2.2.2.2.2.2.1 z.2.2.2.2.2.2.2.2.2.2.1 z.2.2.2.2.2.2.2.2.2.2.2.1 z.2.2.2.2.2.2.2.2.2.2.2.2.1 z.2.2.2.2.2.2.2.2.2.2.2.2.2.1 z.2.2.2.2.2.2.2.2.2.2.2.2.2.2.1 z.2.2.2.2.2.2.2.2.2.2.2.2.2.2.2.1 z.2.2.2.2.2.2.2.2.2.2.2.2.2.2.2.2.1 z.2.2.2.2.2.2.2.2.2.2.2.2.2.2.2.2.2.1 z.2.2.2.2.2.2.2.2.2.2.2.2.2.2.2.2.2.2.1 z.2.2.2.2.2.2.2.2.2.2.2.2.2.2.2.2.2.2.2.1 z.2.2.2.2.2.2.2.2.2.2.2.2.2.2.2.2.2.2.2.2.1 z.2.2.2.2.2.2.2.2.2.2.2.2.2.2.2.2.2.2.2.2.2.1 z.2.2.2.2.2.2.2.2.2.2.2.2.2.2.2.2.2.2.2.2.2.2) (by delta Hnames_conS.z₀; exact rfl) (by with_unfolding_all exact Hnames_conS.main) (w, x, dx, sm, dl, ig, ta, tb, tc, oig, so, kvs, f, ms, fs, ds, nd, rest, module, t, fl, tfl, c) hflS hoff hlo hd hf hkl hM hds hms hfs hmo
end
section
open PySem.W.X PyProof.Rows.LCg
section
variable {prog : Program} {w : World} {A : Around} {E : Value → Shared → Prop} {R : Result → Shared → Prop} {s : Shared}
theorem tw_turn0 (elt t0 i0 t1 i1 : PySem.Expr) (scope : Scope) (pos : Pos) (it acc : Value) (env : Env) :
    compTurn (.ListComp elt [⟨t0, i0, [], 0⟩, ⟨t1, i1, [], 0⟩] scope pos) 0 it acc env = (standAt i0.pos >>= fun _ => pyNext it >>= fun r => match r with
      | none => pure (.done .next)
      | some v => letOwnedTupleGo t0 it v >>= fun _ => assign t0 env v >>= fun _ =>
        (eval i1 env >>= fun x => standAt i1.pos >>= fun _ => foldedSetIterable i1 env x >>= fun x => holding [x] (pyIter x) >>= fun it1 => runOwn (.compStart (.ListComp elt [⟨t0, i0, [], 0⟩, ⟨t1, i1, [], 0⟩] scope pos) 1 it1 acc env) env >>= fun _ =>
          again (.compLoop (.ListComp elt [⟨t0, i0, [], 0⟩, ⟨t1, i1, [], 0⟩] scope pos) 0 it acc env))) := by rfl
theorem tw_turn1 (elt t0 i0 t1 i1 : PySem.Expr) (scope : Scope) (pos : Pos) (it acc : Value) (env : Env) :
    compTurn (.ListComp elt [⟨t0, i0, [], 0⟩, ⟨t1, i1, [], 0⟩] scope pos) 1 it acc env = (standAt i1.pos >>= fun _ => pyNext it >>= fun r => match r with
      | none => pure (.done .next)
      | some v => letOwnedTupleGo t1 it v >>= fun _ => assign t1 env v >>= fun _ =>
        (eval elt env >>= fun x => call (.builtin "list.append") [acc, x] >>= fun _ => pure ()) >>= fun _ =>
          again (.compLoop (.ListComp elt [⟨t0, i0, [], 0⟩, ⟨t1, i1, [], 0⟩] scope pos) 1 it acc env)) := by rfl
theorem tw_loop1 {elt t0 i0 t1 i1 : PySem.Expr} {scope : Scope} {pos : Pos} {it acc : Value} {env : Env} (I : Nat → Shared → Prop)
    (turn : ∀ n s, I n s → wpAny (model prog w) A (pyNext it) (fun r s₁ => match r with
      | none => R (.ok .next) s₁
      | some v => wpAny (model prog w) A (assign t1 env v) (fun _ s₂ => wpAny (model prog w) A (eval elt env) (fun x s₃ =>
          wpAny (model prog w) A (call (.builtin "list.append") [acc, x]) (fun _ s₄ => ∃ m, m < n ∧ I m s₄) (notedBy (model prog w) A env fun e s' => R (.error e) s') s₃)
          (notedBy (model prog w) A env fun e s' => R (.error e) s') s₂) (notedBy (model prog w) A env fun e s' => R (.error e) s') s₁) (notedBy (model prog w) A env fun e s' => R (.error e) s') s)
    (n : Nat) (h : I n s) (ht : ∀ v, letOwnedTupleGo t1 it v = pure () := by intro _; rfl) :
    codeAny (model prog w) A (.compLoop (.ListComp elt [⟨t0, i0, [], 0⟩, ⟨t1, i1, [], 0⟩] scope pos) 1 it acc env) R s := by
  refine codeAny_loop rfl I (fun n s hI => ?_) n h
  show wpAny _ A ((compTurn (.ListComp elt [⟨t0, i0, [], 0⟩, ⟨t1, i1, [], 0⟩] scope pos) 1 it acc env).onRaise (fun x => do noteFrame x env; theTreesLotGoes x)) _ _ s
  refine wpAny_noted ?_
  rw [tw_turn1]
  refine wpAny_bind (wpAny_standAt (wpAny_bind (wpAny_mono (turn n s hI) (fun r s₁ h₁ => ?_) fun _ _ h' => h')))
  cases r with
  | none => exact wpAny_pure h₁
  | some v =>
    refine wpAny_bind (wpAny_of_eq (ht v) ?_)
    exact wpAny_bind (wpAny_mono h₁ (fun _ s₂ h₂ => wpAny_bind (wpAny_bind (wpAny_mono h₂ (fun x s₃ h₃ => wpAny_bind (wpAny_mono h₃
      (fun _ s₄ h₄ => wpAny_pure (wpAny_pure ⟨rfl, h₄⟩)) fun _ _ h' => h')) fun _ _ h' => h'))) fun _ _ h' => h')
theorem tw_loop0 {elt t0 i0 t1 i1 : PySem.Expr} {scope : Scope} {pos : Pos} {it acc : Value} {env : Env} (I : Nat → Shared → Prop)
    (turn : ∀ n s (E' : Value → Shared → Prop), I n s → wpAny (model prog w) A (pyNext it) (fun r s₁ => match r with
      | none => R (.ok .next) s₁
      | some v => wpAny (model prog w) A (assign t0 env v) (fun _ s₂ => wpAny (model prog w) A (eval i1 env) (fun x s₃ =>
          wpAny (model prog w) A (pyIter x) (fun it1 s₄ => codeAny (model prog w) A (.compStart (.ListComp elt [⟨t0, i0, [], 0⟩, ⟨t1, i1, [], 0⟩] scope pos) 1 it1 acc env) (fun r s₅ => r = .ok .next ∧ ∃ m, m < n ∧ I m s₅) s₄)
          E' s₃) E' s₂) E' s₁) E' s)
    (n : Nat) (h : I n s) (ht : ∀ v, letOwnedTupleGo t0 it v = pure () := by intro _; rfl) (hs : ∀ x, foldedSetIterable i1 env x = pure x := by intro _; rfl) :
    codeAny (model prog w) A (.compLoop (.ListComp elt [⟨t0, i0, [], 0⟩, ⟨t1, i1, [], 0⟩] scope pos) 0 it acc env) R s := by
  refine codeAny_loop rfl I (fun n s hI => ?_) n h
  show wpAny _ A ((compTurn (.ListComp elt [⟨t0, i0, [], 0⟩, ⟨t1, i1, [], 0⟩] scope pos) 0 it acc env).onRaise (fun x => do noteFrame x env; theTreesLotGoes x)) _ _ s
  refine wpAny_noted ?_
  rw [tw_turn0]
  refine wpAny_bind (wpAny_standAt (wpAny_bind (wpAny_mono (turn n s _ hI) (fun r s₁ h₁ => ?_) fun _ _ h' => h')))
  cases r with
  | none => exact wpAny_pure h₁
  | some v =>
    refine wpAny_bind (wpAny_of_eq (ht v) ?_)
    refine wpAny_bind (wpAny_mono h₁ (fun _ s₂ h₂ => wpAny_bind (wpAny_mono h₂ (fun x s₃ h₃ => wpAny_bind (wpAny_standAt (wpAny_bind (wpAny_of_eq (hs x) (wpAny_bind (wpAny_holding (wpAny_mono h₃
      (fun it1 s₄ h₄ => wpAny_bind (wpAny_runOwn ?_)) fun _ _ h' => h'))))))) fun _ _ h' => h')) fun _ _ h' => h')
    refine codeAny_mono h₄ fun r s₅ h₅ => ?_
    obtain ⟨rfl, h₅⟩ := h₅
    exact wpAny_pure ⟨rfl, h₅⟩
theorem tw_start {elt t0 i0 t1 i1 : PySem.Expr} {scope : Scope} {pos : Pos} {it acc : Value} {env : Env}
    (h0 : codeAny (model prog w) A (.compLoop (.ListComp elt [⟨t0, i0, [], 0⟩, ⟨t1, i1, [], 0⟩] scope pos) 1 it acc env) R s)
    (h : ∀ E', wpAny (model prog w) A (pyIter it) (fun it' s' => codeAny (model prog w) A (.compLoop (.ListComp elt [⟨t0, i0, [], 0⟩, ⟨t1, i1, [], 0⟩] scope pos) 1 it' acc env) R s') E' s) :
    codeAny (model prog w) A (.compStart (.ListComp elt [⟨t0, i0, [], 0⟩, ⟨t1, i1, [], 0⟩] scope pos) 1 it acc env) R s := by
  refine codeAny_of_tree ?_
  show wpAny _ _ ((compStart (.ListComp elt [⟨t0, i0, [], 0⟩, ⟨t1, i1, [], 0⟩] scope pos) 1 it acc env).onRaise (fun x => do noteFrame x env; standAt theWindowsPlace)) _ _ s
  refine wpAny_notedAt ?_
  unfold compStart
  show wpAny _ _ (ask >>= _) _ _ s
  refine wpAny_bind (wpAny_askSetting (wpAny_ite ?_))
  split
  · first
      | exact wpAny_bind (wpAny_pure (wpAny_pure (And.intro rfl h0)))
      | exact wpAny_pure (And.intro rfl h0)
  · first
      | exact wpAny_bind (wpAny_rule (wpAny_bind (wpAny_standAt (wpAny_bind (wpAny_mono (h _) (fun it' s' h' => wpAny_pure (And.intro rfl h')) fun _ _ x => x)))))
      | (refine wpAny_bind (wpAny_rule ?_); show wpAny _ _ (standAt i1.pos >>= _) _ _ s; exact wpAny_bind (wpAny_standAt (wpAny_bind (wpAny_mono (h _) (fun it' s' h' => wpAny_pure (And.intro rfl h')) fun _ _ x => x))))
end
noncomputable abbrev tupO (es : List Value) : Obj := { cls := .type "tuple", data := .seq es.toArray }
noncomputable def TwIt (h₀ : Heap) (L : Addr) (m : Str → Option Value) (s : Shared) (G : List Value → Prop) (news : List (Addr × Obj)) (xv : Value) (s₃ : Shared) : Prop := ∃ T es h' tk', G es ∧ xv = .ref T ∧ s₃ = { s with heap := h', toks := tk' } ∧ Fr h₀ L h' m ∧ News h₀ L h' ((T, tupO es) :: news) ∧ (∀ p ∈ news, p.1 ≠ T)
noncomputable def TwEl (h₀ : Heap) (L : Addr) (m : Str → Option Value) (s : Shared) (news : List (Addr × Obj)) (J : Value → Prop) (y : Value) (s₃ : Shared) : Prop := ∃ h' tk', s₃ = { s with heap := h', toks := tk' } ∧ Fr h₀ L h' m ∧ News h₀ L h' news ∧ J y
/-- the two-clause comprehension's duties -/
structure TwOk (prog : Program) (w : World) (A : Around) (h₀ : Heap) (L : Addr) (m : Str → Option Value) (env : Env) (elt i1 : PySem.Expr) (x x2 : Str) (scope : Scope) (cl : List (Str × Addr)) (s : Shared) (its : List Value) (G : List Value → Prop) (news : List (Addr × Obj)) (J : Nat → Nat → List Value → Prop) : Prop where
  iter : ∀ i v ys I oI C oC D m₂ h tk (E' : Value → Shared → Prop), its[i]? = some v → J i 0 ys → NsObj oC m₂ → m₂ x = some v → Fr h₀ L h m → News h₀ L h ((I, oI) :: (C, oC) :: (D, LCg.lst ys) :: news) → Off3 I C D news → ((@Ne Nat I C) ∧ (@Ne Nat I D) ∧ (@Ne Nat C D)) →
    wpAny (model prog w) A (eval i1 (compEnvC scope cl C env)) (TwIt h₀ L m s G ((I, oI) :: (C, oC) :: (D, LCg.lst ys) :: news)) E' { s with heap := h, toks := tk }
  elt : ∀ i j v e es ys I2 oI2 T I oI C oC D m₂ h tk (E' : Value → Shared → Prop), G es → its[i]? = some v → es[j]? = some e → J i j ys → NsObj oC m₂ → m₂ x = some v → m₂ x2 = some e → Fr h₀ L h m → News h₀ L h ((I2, oI2) :: (T, tupO es) :: (I, oI) :: (C, oC) :: (D, LCg.lst ys) :: news) → Off3 I C D news → ((@Ne Nat I C) ∧ (@Ne Nat I D) ∧ (@Ne Nat C D)) →
    wpAny (model prog w) A (eval elt (compEnvC scope cl C env)) (TwEl h₀ L m s ((I2, oI2) :: (T, tupO es) :: (I, oI) :: (C, oC) :: (D, LCg.lst ys) :: news) (fun y => J i (j + 1) (ys ++ [y]))) E' { s with heap := h, toks := tk }
section
section V
variable {prog : Program} {w : World} {A : Around} {E : Value → Shared → Prop} {s : Shared} {h₀ : Heap} {L : Addr} {m : Str → Option Value} {env : Env}
end V
namespace Htw_block
noncomputable def Pre (prog : Program) (w : World) (A : Around) (E : Value → Shared → Prop) (h₀ : Heap) (L : Addr) (m : Str → Option Value) (env : Env) (elt : PySem.Expr) (iter : PySem.Expr) (i1 : PySem.Expr) (x : Str) (x2 : Str) (px : Pos) (px2 : Pos) (scope : Scope) (cl : List (Str × Addr)) (pos : Pos) (s₂ : Shared) (I : Addr) (ax : Addr) (lo : Obj) (its : List Value) (G : List Value → Prop) (k : Nat) (news : List (Addr × Obj)) (J : Nat → Nat → List Value → Prop) (RR : Value → Addr → Result → Shared → Prop) : Prop :=
  (A.handled = none) → (lo.cls = .type "list") → (lo.data = .seq its.toArray k) → (∀ i j ys, J i j ys → ys.length ≤ sizeLine) → (s₂.heap.IsListIter I ax 0) → ((ax, lo) ∈ news) → (∀ y ∈ scope.names, y.2 ≠ .cell) → (scope.kind = .function) → (scope.names.lookup x = some .local) → (scope.names.lookup x2 = some .local) → (¬ x = x2) → (Fr h₀ L s₂.heap m) → (News h₀ L s₂.heap news) → (L ≠ I) → (h₀.get? I = none) → (∀ p ∈ news, p.1 ≠ I) → (TwOk prog w A h₀ L m env elt i1 x x2 scope cl s₂ its G news J) → (J 0 0 []) → (∀ es i ys, G es → J i es.length ys → J (i + 1) 0 ys) → (∀ C z, foldedSetIterable i1 (compEnvC scope cl C env) z = pure z) → (∀ D C h tk m' ys, Fr h₀ L h m → News h₀ L h ((D, LCg.lst ys) :: news) → Off1 D news → h.Ns C m' → h₀.get? C = none → h₀.get? D = none → C ≠ L → D ≠ L → C ≠ D → (∀ p ∈ news, p.1 ≠ C) → J its.length 0 ys → RR (.ref D) C (.ok .next) { s₂ with heap := h, toks := tk }) → wpAny (model prog w) A (newList []) (fun acc s₃ => wpAny (model prog w) A (newFunctionEnv scope env.globals cl [] env.qual none .none (some env)) (fun cenv s₄ =>
      codeAny (model prog w) A (.compStart (.ListComp elt [⟨.Name x px, iter, [], 0⟩, ⟨.Name x2 px2, i1, [], 0⟩] scope pos) 0 (.ref I) acc { cenv with scope := relabel scope env }) (RR acc cenv.locals) s₄) E s₃) E s₂
noncomputable abbrev Dat : Type := Program × World × Around × (Value → Shared → Prop) × Heap × Addr × (Str → Option Value) × Env × PySem.Expr × PySem.Expr × PySem.Expr × Str × Str × Pos × Pos × Scope × (List (Str × Addr)) × Pos × Shared × Addr × Addr × Obj × (List Value) × (List Value → Prop) × Nat × (List (Addr × Obj)) × (Nat → Nat → List Value → Prop) × (Value → Addr → Result → Shared → Prop)
noncomputable def d₀ : Dat := (default, wd, ⟨none, 0, none, none, 1⟩, (fun _ _ => True), {}, (0 : Nat), (fun _ => none), default, default, default, default, (Str.ofString ""), (Str.ofString ""), default, default, default, [], default, ⟨{}, #[], {}, 1, {}⟩, (0 : Nat), (0 : Nat), default, [], (fun _ => True), 0, [], (fun _ _ _ => True), (fun _ _ _ _ => True))
@[irreducible] noncomputable def z₀ : Dat := eps d₀ fun z => ¬ Pre z.1 z.2.1 z.2.2.1 z.2.2.2.1 z.2.2.2.2.1 z.2.2.2.2.2.1 z.2.2.2.2.2.2.1 z.2.2.2.2.2.2.2.1 z.2.2.2.2.2.2.2.2.1 z.2.2.2.2.2.2.2.2.2.1 z.2.2.2.2.2.2.2.2.2.2.1 z.2.2.2.2.2.2.2.2.2.2.2.1 z.2.2.2.2.2.2.2.2.2.2.2.2.1 z.2.2.2.2.2.2.2.2.2.2.2.2.2.1 z.2.2.2.2.2.2.2.2.2.2.2.2.2.2.1 z.2.2.2.2.2.2.2.2.2.2.2.2.2.2.2.1 z.2.2.2.2.2.2.2.2.2.2.2.2.2.2.2.2.1 z.2.2.2.2.2.2.2.2.2.2.2.2.2.2.2.2.2.1 z.2.2.2.2.2.2.2.2.2.2.2.2.2.2.2.2.2.2.1 z.2.2.2.2.2.2.2.2.2.2.2.2.2.2.2.2.2.2.2.1 z.2.2.2.2.2.2.2.2.2.2.2.2.2.2.2.2.2.2.2.2.1 z.2.2.2.2.2.2.2.2.2.2.2.2.2.2.2.2.2.2.2.2.2.1 z.2.2.2.2.2.2.2.2.2.2.2.2.2.2.2.2.2.2.2.2.2.2.1 z.2.2.2.2.2.2.2.2.2.2.2.2.2.2.2.2.2.2.2.2.2.2.2.1 z.2.2.2.2.2.2.2.2.2.2.2.2.2.2.2.2.2.2.2.2.2.2.2.2.1 z.2.2.2.2.2.2.2.2.2.2.2.2.2.2.2.2.2.2.2.2.2.2.2.2.2.1 z.2.2.2.2.2.2.2.2.2.2.2.2.2.2.2.2.2.2.2.2.2.2.2.2.2.2.1 z.2.2.2.2.2.2.2.2.2.2.2.2.2.2.2.2.2.2.2.2.2.2.2.2.2.2.2
@[irreducible] noncomputable def prog : Program := z₀.1
@[irreducible] noncomputable def w : World := z₀.2.1
@[irreducible] noncomputable def A : Around := z₀.2.2.1
@[irreducible] noncomputable def E : Value → Shared → Prop := z₀.2.2.2.1
@[irreducible] noncomputable def h₀ : Heap := z₀.2.2.2.2.1
@[irreducible] noncomputable def L : Addr := z₀.2.2.2.2.2.1
@[irreducible] noncomputable def m : Str → Option Value := z₀.2.2.2.2.2.2.1
@[irreducible] noncomputable def env : Env := z₀.2.2.2.2.2.2.2.1
@[irreducible] noncomputable def elt : PySem.Expr := z₀.2.2.2.2.2.2.2.2.1
@[irreducible] noncomputable def iter : PySem.Expr := z₀.2.2.2.2.2.2.2.2.2.1
@[irreducible] noncomputable def i1 : PySem.Expr := z₀.2.2.2.2.2.2.2.2.2.2.1
@[irreducible] noncomputable def x : Str := z₀.2.2.2.2.2.2.2.2.2.2.2.1
@[irreducible] noncomputable def x2 : Str := z₀.2.2.2.2.2.2.2.2.2.2.2.2.1
@[irreducible] noncomputable def px : Pos := z₀.2.2.2.2.2.2.2.2.2.2.2.2.2.1
@[irreducible] noncomputable def px2 : Pos := z₀.2.2.2.2.2.2.2.2.2.2.2.2.2.2.1
@[irreducible] noncomputable def scope : Scope := z₀.2.2.2.2.2.2.2.2.2.2.2.2.2.2.2.1
@[irreducible] noncomputable def cl : List (Str × Addr) := z₀.2.2.2.2.2.2.2.2.2.2.2.2.2.2.2.2.1
@[irreducible] noncomputable def pos : Pos := z₀.2.2.2.2.2.2.2.2.2.2.2.2.2.2.2.2.2.1
@[irreducible] noncomputable def s₂ : Shared := z₀.2.2.2.2.2.2.2.2.2.2.2.2.2.2.2.2.2.2.1
@[irreducible] noncomputable def I : Addr := z₀.2.2.2.2.2.2.2.2.2.2.2.2.2.2.2.2.2.2.2.1
@[irreducible] noncomputable def ax : Addr := z₀.2.2.2.2.2.2.2.2.2.2.2.2.2.2.2.2.2.2.2.2.1
@[irreducible] noncomputable def lo : Obj := z₀.2.2.2.2.2.2.2.2.2.2.2.2.2.2.2.2.2.2.2.2.2.1
@[irreducible] noncomputable def its : List Value := z₀.2.2.2.2.2.2.2.2.2.2.2.2.2.2.2.2.2.2.2.2.2.2.1
@[irreducible] noncomputable def G : List Value → Prop := z₀.2.2.2.2.2.2.2.2.2.2.2.2.2.2.2.2.2.2.2.2.2.2.2.1
@[irreducible] noncomputable def k : Nat := z₀.2.2.2.2.2.2.2.2.2.2.2.2.2.2.2.2.2.2.2.2.2.2.2.2.1
@[irreducible] noncomputable def news : List (Addr × Obj) := z₀.2.2.2.2.2.2.2.2.2.2.2.2.2.2.2.2.2.2.2.2.2.2.2.2.2.1
@[irreducible] noncomputable def J : Nat → Nat → List Value → Prop := z₀.2.2.2.2.2.2.2.2.2.2.2.2.2.2.2.2.2.2.2.2.2.2.2.2.2.2.1
@[irreducible] noncomputable def RR : Value → Addr → Result → Shared → Prop := z₀.2.2.2.2.2.2.2.2.2.2.2.2.2.2.2.2.2.2.2.2.2.2.2.2.2.2.2
theorem main : Pre prog w A E h₀ L m env elt iter i1 x x2 px px2 scope cl pos s₂ I ax lo its G k news J RR := by
  intro hh hlc hld hsz hit hax hcell hkind hxa hxb hab F N hIL hI₀ off R hJ hnext hs hRR
  refine wpAny_newObj_type (wpAny_newFunctionEnv hcell (by intro y hy; simp at hy) (fun h₁ hns₁ hsb₁ => ?_) hkind)
  dsimp only at hns₁ hsb₁ ⊢
  generalize hH2 : s₂.heap.push { cls := .type "list", dict := none, data := .seq ([] : List Value).toArray } = H2 at hns₁ hsb₁ ⊢
  have hC : H2.objs.size = s₂.heap.objs.size + 1 := by rw [← hH2, Heap.size_push]
  have hDC : s₂.heap.objs.size ≠ H2.objs.size := by rw [hC]; exact Nat.ne_of_lt (Nat.lt_succ_self _)
  have below : ∀ b, b < s₂.heap.objs.size → b ≠ H2.objs.size ∧ b ≠ s₂.heap.objs.size := fun b hb => ⟨by rw [hC]; exact Nat.ne_of_lt (Nat.lt_succ_of_lt hb), Nat.ne_of_lt hb⟩
  have hIlt : I < s₂.heap.objs.size := let ⟨_, q, _⟩ := hit; Heap.lt_size q
  have old : ∀ b o, s₂.heap.get? b = some o → h₁.get? b = some o := fun b o q => hsb₁.extBut b o (below b (Heap.lt_size q)).1 (Heap.get?_push_of_some _ (hH2 ▸ Heap.get?_push_of_some _ q))
  have hacc : h₁.get? s₂.heap.objs.size = some (LCg.lst []) := hsb₁.extBut _ _ hDC (Heap.get?_push_of_some _ (hH2 ▸ Heap.get?_push_size _ rfl))
  have fresh₀ : ∀ a, s₂.heap.objs.size ≤ a → h₀.get? a = none := fun a ha => by
    cases q : h₀.get? a with
    | none => rfl
    | some o' => exact absurd (Heap.lt_size (F.keep a o' q)) (Nat.not_lt.mpr ha)
  have hD₀ : h₀.get? s₂.heap.objs.size = none := fresh₀ _ (Nat.le_refl _)
  have hC₀ : h₀.get? H2.objs.size = none := fresh₀ _ (by rw [hC]; exact Nat.le_succ _)
  have hLlt : L < s₂.heap.objs.size := F.ns.lt
  have off₀ : Off3 I H2.objs.size s₂.heap.objs.size news := Off3.of fun p hp => ⟨off p hp, (below _ (Heap.lt_size (N p hp).1)).1, (below _ (Heap.lt_size (N p hp).1)).2⟩
  generalize hDn : s₂.heap.objs.size = D at hDC below hIlt hacc hD₀ hLlt hC fresh₀ off₀ ⊢
  generalize hCn : H2.objs.size = C at hDC below hC₀ hC hns₁ hsb₁ off₀ ⊢
  have hDL : D ≠ L := Ne.symm (below L hLlt).2
  have hCL : C ≠ L := Ne.symm (below L hLlt).1
  have ne3 : ((@Ne Nat I C) ∧ (@Ne Nat I D) ∧ (@Ne Nat C D)) := ⟨(below I hIlt).1, (below I hIlt).2, Ne.symm hDC⟩
  have off3 := off₀.mem
  have hIax : ax ≠ I := off _ hax
  have W := Walks.list (prog := prog) (w := w) (A := A) hh I ax hIax its.toArray
  have lax : ∀ {h : Heap}, News h₀ L h news → h.IsList ax its.toArray := fun N' => ⟨lo, (N' _ hax).1, hlc, k, hld⟩
  have loop : ∀ s₃ : Shared, s₃ = { s₂ with heap := h₁, toks := s₂.toks + ([] : List (Str × Value)).length } →
      codeAny (model prog w) A (.compLoop (.ListComp elt [⟨.Name x px, iter, [], 0⟩, ⟨.Name x2 px2, i1, [], 0⟩] scope pos) 0 (.ref I) (.ref D) (compEnvC scope cl C env)) (RR (.ref D) C) s₃ := by
    rintro s₃ rfl
    refine tw_loop0
      (fun kk s' => ∃ h' tk, ∃ i : Nat, ∃ ys m', s' = { s₂ with heap := h', toks := tk } ∧ i ≤ its.length ∧ kk = its.length + 1 - i ∧ h'.IsListIter I ax i ∧ Fr h₀ L h' m ∧ h'.Ns C m' ∧ News h₀ L h' ((D, LCg.lst ys) :: news) ∧ J i 0 ys) ?_ (its.length + 1)
      ⟨h₁, _, 0, [], _, rfl, Nat.zero_le _, rfl, hit.at fun o q => old _ _ q, F.keeps old, hns₁, fun p hp => ?_, hJ⟩ (by intro _; rfl) (hs C)
    · rintro kk s' E' ⟨h', tk, i, ys, m', rfl, hi, rfl, hit', F', hn', N', hj⟩
      have N'' : News h₀ L h' news := fun p hp => N' p (.tail _ hp)
      by_cases hlt : i < its.length
      · refine W.item i _ _ _ (by simpa using hlt) ⟨hit', lax N''⟩ fun v h₂ tk₂ hPv hst₂ hk₂ => ?_
        have hv : its[i]? = some v := by simpa using hPv
        refine wpAny_assign_Name (wpAny_storeName_local (lookup_relabel_local hxa) (hn'.at' fun o e => hk₂ _ o (by simpa using Ne.symm ne3.1) e) (fun h₃ hn₃ hs₃ => ?_) (by simp [compEnvC, relabel, hkind]))
        obtain ⟨oI, heI₂, hoIc, hoId⟩ := hst₂.1
        have heI : h₃.get? I = some oI := hs₃.extBut _ _ ne3.1 heI₂
        obtain ⟨oC, heC, hoC⟩ := ns_obj hn₃
        have F₃ : Fr h₀ L h₃ m := (fr_but F' hk₂ hIL hI₀).change hs₃ hCL hC₀
        have N₂ : News h₀ L h₂ ((D, LCg.lst ys) :: news) := news_but N' hk₂ fun p hp => by
          rcases List.mem_cons.mp hp with rfl | hp
          · exact Ne.symm ne3.2.1
          · exact (off3 p hp).1
        have N₃ : News h₀ L h₃ ((I, oI) :: (C, oC) :: (D, LCg.lst ys) :: news) := fun p hp => by
          rcases List.mem_cons.mp hp with rfl | hp
          · exact ⟨heI, Ne.symm hIL, hI₀⟩
          rcases List.mem_cons.mp hp with rfl | hp
          · exact ⟨heC, hCL, hC₀⟩
          have z := N₂ p hp
          refine ⟨hs₃.extBut _ _ ?_ z.1, z.2⟩
          rcases List.mem_cons.mp hp with rfl | hp
          · exact hDC
          · exact (off3 p hp).2.1
        refine wpAny_mono (R.iter i v ys I oI C oC D _ h₃ _ _ hv hj hoC (by simp) F₃ N₃ off₀ ne3) (fun xv s₄ h₄ => ?_) fun _ _ q => q
        obtain ⟨T, es, h₄, tk₄, hG, rfl, rfl, F₄, N₄, offT⟩ := h₄
        have hT : h₄.IsTuple T es.toArray := ⟨_, (N₄ _ (.head _)).1, rfl, _, rfl⟩
        refine wpAny_pyIter_tuple hT ?_
        generalize hI2 : h₄.objs.size = I2
        have hTI2 : T ≠ I2 := hI2 ▸ Nat.ne_of_lt (Heap.lt_size (N₄ _ (.head _)).1)
        have offI2 : ∀ p ∈ (T, tupO es) :: (I, oI) :: (C, oC) :: (D, LCg.lst ys) :: news, p.1 ≠ I2 := fun p hp => hI2 ▸ Nat.ne_of_lt (Heap.lt_size (N₄ p hp).1)
        have hLI2 : L ≠ I2 := hI2 ▸ Nat.ne_of_lt F₄.ns.lt
        have hI2₀ : h₀.get? I2 = none := by
          cases q : h₀.get? I2 with
          | none => rfl
          | some o' => exact absurd (Heap.lt_size (F₄.keep _ o' q)) (by rw [hI2]; exact Nat.lt_irrefl _)
        have W2 := Walks.tuple (prog := prog) (w := w) (A := A) hh I2 T hTI2 es.toArray
        have hIT : I ≠ T := offT (I, oI) (.head _)
        have hCT : C ≠ T := offT (C, oC) (.tail _ (.head _))
        have hDT : D ≠ T := offT (D, LCg.lst ys) (.tail _ (.tail _ (.head _)))
        have hII2 : I ≠ I2 := offI2 (I, oI) (.tail _ (.head _))
        have hCI2 : C ≠ I2 := offI2 (C, oC) (.tail _ (.tail _ (.head _)))
        have hDI2 : D ≠ I2 := offI2 (D, LCg.lst ys) (.tail _ (.tail _ (.tail _ (.head _))))
        have loop2 : ∀ s₅ : Shared, s₅ = { s₂ with heap := h₄.push { cls := .type "tuple_iterator", data := .fields #[.ref T, .int 0 0] }, toks := tk₄ } →
            codeAny (model prog w) A (.compLoop (.ListComp elt [⟨.Name x px, iter, [], 0⟩, ⟨.Name x2 px2, i1, [], 0⟩] scope pos) 1 (.ref I2) (.ref D) (compEnvC scope cl C env))
              (fun r s₅ => r = .ok .next ∧ ∃ mm, mm < its.length + 1 - i ∧ (∃ h' tk, ∃ i : Nat, ∃ ys m', s₅ = { s₂ with heap := h', toks := tk } ∧ i ≤ its.length ∧ mm = its.length + 1 - i ∧ h'.IsListIter I ax i ∧ Fr h₀ L h' m ∧ h'.Ns C m' ∧ News h₀ L h' ((D, LCg.lst ys) :: news) ∧ J i 0 ys)) s₅ := by
          rintro s₅ rfl
          refine tw_loop1
            (fun kk s' => ∃ h' tk, ∃ j : Nat, ∃ ys m' oC, s' = { s₂ with heap := h', toks := tk } ∧ j ≤ es.length ∧ kk = es.length + 1 - j ∧ h'.IsTupleIter I2 T j ∧ Fr h₀ L h' m ∧ NsObj oC m' ∧ m' x = some v ∧ News h₀ L h' ((T, tupO es) :: (I, oI) :: (C, oC) :: (D, LCg.lst ys) :: news) ∧ J i j ys) ?_ (es.length + 1)
            ⟨_, _, 0, ys, _, oC, rfl, Nat.zero_le _, rfl, ⟨_, by rw [← hI2]; exact Heap.get?_push_size _ rfl, rfl, rfl⟩, F₄.keeps fun _ _ q => Heap.get?_push_of_some _ q, hoC, by simp, N₄.grown fun _ _ q => Heap.get?_push_of_some _ q, hj⟩
          rintro kk s' ⟨h₆, tk₆, j, ys₆, m₆, oC₆, rfl, hj₆, rfl, hit₆, F₆, hoC₆, hmx₆, N₆, hJ₆⟩
          have hT₆ : h₆.IsTuple T es.toArray := ⟨_, (N₆ _ (.head _)).1, rfl, _, rfl⟩
          by_cases hlt2 : j < es.length
          · refine W2.item j _ _ _ (by simpa using hlt2) ⟨hit₆, hT₆⟩ fun e h₇ tk₇ hPe hst₇ hk₇ => ?_
            have he : es[j]? = some e := by simpa using hPe
            have heC₆ := (N₆ (C, oC₆) (.tail _ (.tail _ (.head _)))).1
            have hn₇ : h₇.Ns C m₆ := (hoC₆.ns heC₆).at' fun o e => hk₇ _ o (by simpa using hCI2) e
            refine wpAny_assign_Name (wpAny_storeName_local (lookup_relabel_local hxb) hn₇ (fun h₈ hn₈ hs₈ => ?_) (by simp [compEnvC, relabel, hkind]))
            obtain ⟨oI2, heI2, hoI2c, hoI2d⟩ := hst₇.1
            have heI2₈ : h₈.get? I2 = some oI2 := hs₈.extBut _ _ (Ne.symm hCI2) heI2
            obtain ⟨oC₈, heC₈, hoC₈⟩ := ns_obj hn₈
            have F₈ : Fr h₀ L h₈ m := (fr_but F₆ hk₇ hLI2 hI2₀).change hs₈ hCL hC₀
            have up : ∀ p ∈ (T, tupO es) :: (I, oI) :: (D, LCg.lst ys₆) :: news, h₆.get? p.1 = some p.2 → h₈.get? p.1 = some p.2 := fun p hp q => by
              refine hs₈.extBut _ _ ?_ (hk₇ _ _ ?_ q)
              · rcases List.mem_cons.mp hp with rfl | hp
                · exact Ne.symm hCT
                rcases List.mem_cons.mp hp with rfl | hp
                · exact ne3.1
                rcases List.mem_cons.mp hp with rfl | hp
                · exact hDC
                · exact (off3 p hp).2.1
              · rcases List.mem_cons.mp hp with rfl | hp
                · simpa using hTI2
                rcases List.mem_cons.mp hp with rfl | hp
                · simpa using hII2
                rcases List.mem_cons.mp hp with rfl | hp
                · simpa using hDI2
                · simpa using offI2 p (.tail _ (.tail _ (.tail _ (.tail _ hp))))
            have N₈ : News h₀ L h₈ ((I2, oI2) :: (T, tupO es) :: (I, oI) :: (C, oC₈) :: (D, LCg.lst ys₆) :: news) := fun p hp => by
              rcases List.mem_cons.mp hp with rfl | hp
              · exact ⟨heI2₈, Ne.symm hLI2, hI2₀⟩
              rcases List.mem_cons.mp hp with rfl | hp
              · have z := N₆ (T, tupO es) (.head _); exact ⟨up _ (.head _) z.1, z.2⟩
              rcases List.mem_cons.mp hp with rfl | hp
              · have z := N₆ (I, oI) (.tail _ (.head _)); exact ⟨up _ (.tail _ (.head _)) z.1, z.2⟩
              rcases List.mem_cons.mp hp with rfl | hp
              · exact ⟨heC₈, hCL, hC₀⟩
              rcases List.mem_cons.mp hp with rfl | hp
              · have z := N₆ (D, LCg.lst ys₆) (.tail _ (.tail _ (.tail _ (.head _)))); exact ⟨up _ (.tail _ (.tail _ (.head _))) z.1, z.2⟩
              · have z := N₆ p (.tail _ (.tail _ (.tail _ (.tail _ hp)))); exact ⟨up _ (.tail _ (.tail _ (.tail _ hp))) z.1, z.2⟩
            refine wpAny_mono (R.elt i j v e es ys₆ I2 oI2 T I oI C oC₈ D _ h₈ _ _ hG hv he hJ₆ hoC₈ (by simp [hab, hmx₆]) (by simp) F₈ N₈ off₀ ne3) (fun y s₉ h₉ => ?_) fun _ _ q => q
            obtain ⟨h₉, tk₉, rfl, F₉, N₉, hJ₉⟩ := h₉
            have zD := (N₉ (D, LCg.lst ys₆) (.tail _ (.tail _ (.tail _ (.tail _ (.head _)))))).1
            refine append_at (hsz := by show ys₆.toArray.size ≤ sizeLine; rw [List.size_toArray]; exact hsz _ _ _ hJ₆) zD fun h₁₀ hs₁₀ hD₁₀ => ?_
            refine ⟨es.length + 1 - (j + 1), by omega, h₁₀, _, j + 1, ys₆ ++ [y], _, oC₈, rfl, hlt2, rfl, ⟨oI2, hs₁₀.extBut _ _ (Ne.symm hDI2) (N₉ _ (.head _)).1, hoI2c, hoI2d⟩, F₉.change hs₁₀ hDL hD₀, hoC₈, by simp [hab, hmx₆], fun p hp => ?_, hJ₉⟩
            rcases List.mem_cons.mp hp with rfl | hp
            · have z := N₉ (T, tupO es) (.tail _ (.head _)); exact ⟨hs₁₀.extBut _ _ (Ne.symm hDT) z.1, z.2⟩
            rcases List.mem_cons.mp hp with rfl | hp
            · have z := N₉ (I, oI) (.tail _ (.tail _ (.head _))); exact ⟨hs₁₀.extBut _ _ ne3.2.1 z.1, z.2⟩
            rcases List.mem_cons.mp hp with rfl | hp
            · have z := N₉ (C, oC₈) (.tail _ (.tail _ (.tail _ (.head _)))); exact ⟨hs₁₀.extBut _ _ (Ne.symm hDC) z.1, z.2⟩
            rcases List.mem_cons.mp hp with rfl | hp
            · exact ⟨hD₁₀.trans (congrArg some (lst_snoc ys₆ y)), hDL, hD₀⟩
            · have z := N₉ p (.tail _ (.tail _ (.tail _ (.tail _ (.tail _ hp))))); exact ⟨hs₁₀.extBut _ _ (off3 p hp).2.2 z.1, z.2⟩
          · have hjn : j = es.length := Nat.le_antisymm hj₆ (Nat.not_lt.mp hlt2)
            subst hjn
            refine W2.done _ _ _ ⟨by simpa using hit₆, hT₆⟩ fun h₇ tk₇ hk₇ => ?_
            have up : ∀ p ∈ (T, tupO es) :: (I, oI) :: (C, oC₆) :: (D, LCg.lst ys₆) :: news, h₆.get? p.1 = some p.2 → h₇.get? p.1 = some p.2 := fun p hp q => by
              refine hk₇ _ _ ?_ q
              rcases List.mem_cons.mp hp with rfl | hp
              · simpa using hTI2
              rcases List.mem_cons.mp hp with rfl | hp
              · simpa using hII2
              rcases List.mem_cons.mp hp with rfl | hp
              · simpa using hCI2
              rcases List.mem_cons.mp hp with rfl | hp
              · simpa using hDI2
              · simpa using offI2 p (.tail _ (.tail _ (.tail _ (.tail _ hp))))
            have N₇ : News h₀ L h₇ ((T, tupO es) :: (I, oI) :: (C, oC₆) :: (D, LCg.lst ys₆) :: news) := fun p hp => ⟨up p hp (N₆ p hp).1, (N₆ p hp).2⟩
            exact ⟨rfl, its.length + 1 - (i + 1), by omega, h₇, _, i + 1, ys₆, _, rfl, hlt, rfl, ⟨oI, (N₇ _ (.tail _ (.head _))).1, hoIc, hoId⟩, fr_but F₆ hk₇ hLI2 hI2₀, hoC₆.ns (N₇ _ (.tail _ (.tail _ (.head _)))).1, fun p hp => N₇ p (.tail _ (.tail _ (.tail _ hp))), hnext _ _ _ hG hJ₆⟩
        refine tw_start (loop2 _ rfl) fun E'' => ?_
        refine wpAny_pyIter_tupleiter (it := I2) (t := T) (i := 0) ⟨_, by rw [← hI2]; exact Heap.get?_push_size _ rfl, rfl, rfl⟩ (loop2 _ rfl)
      · have hin : i = its.length := Nat.le_antisymm hi (Nat.not_lt.mp hlt)
        subst hin
        refine W.done _ _ _ ⟨by simpa using hit', lax N''⟩ fun h₂ tk₂ hk₂ => ?_
        exact hRR _ _ h₂ tk₂ _ ys (fr_but F' hk₂ hIL hI₀) (news_but N' hk₂ fun p hp => by
          rcases List.mem_cons.mp hp with rfl | hp
          · exact Ne.symm ne3.2.1
          · exact (off3 p hp).1) off₀.one (hn'.at' fun o e => hk₂ _ o (by simpa using Ne.symm ne3.1) e) hC₀ hD₀ hCL hDL (Ne.symm hDC) (fun p hp => (off3 p hp).2.1) hj
    · rcases List.mem_cons.mp hp with rfl | hp
      · exact ⟨hacc, hDL, hD₀⟩
      · exact ⟨old _ _ (N p hp).1, (N p hp).2⟩
  exact codeAny_compStart_list (loop _ rfl) (W.self 0 _ _ _ ⟨hit.at fun o q => old _ _ q, lax fun p hp => ⟨old _ _ (N p hp).1, (N p hp).2⟩⟩ (loop _ rfl))
end Htw_block
section V
variable {prog : Program} {w : World} {A : Around} {E : Value → Shared → Prop} {s : Shared} {h₀ : Heap} {L : Addr} {m : Str → Option Value} {env : Env}
theorem tw_block {elt iter i1 : PySem.Expr} {x x2 : Str} {px px2 : Pos} {scope : Scope} {cl : List (Str × Addr)} {pos : Pos} {s₂ : Shared} {I ax : Addr} {lo : Obj} {its : List Value} {G : List Value → Prop} {k : Nat} {news : List (Addr × Obj)} (J : Nat → Nat → List Value → Prop)
    {RR : Value → Addr → Result → Shared → Prop}
    (hh : A.handled = none) (hlc : lo.cls = .type "list") (hld : lo.data = .seq its.toArray k) (hsz : ∀ i j ys, J i j ys → ys.length ≤ sizeLine) (hit : s₂.heap.IsListIter I ax 0) (hax : (ax, lo) ∈ news)
    (hcell : ∀ y ∈ scope.names, y.2 ≠ .cell) (hkind : scope.kind = .function) (hxa : scope.names.lookup x = some .local) (hxb : scope.names.lookup x2 = some .local) (hab : ¬ x = x2)
    (F : Fr h₀ L s₂.heap m) (N : News h₀ L s₂.heap news) (hIL : L ≠ I) (hI₀ : h₀.get? I = none) (off : ∀ p ∈ news, p.1 ≠ I)
    (R : TwOk prog w A h₀ L m env elt i1 x x2 scope cl s₂ its G news J) (hJ : J 0 0 []) (hnext : ∀ es i ys, G es → J i es.length ys → J (i + 1) 0 ys)
    (hs : ∀ C z, foldedSetIterable i1 (compEnvC scope cl C env) z = pure z)
    (hRR : ∀ D C h tk m' ys, Fr h₀ L h m → News h₀ L h ((D, LCg.lst ys) :: news) → Off1 D news → h.Ns C m' → h₀.get? C = none → h₀.get? D = none → C ≠ L → D ≠ L → C ≠ D → (∀ p ∈ news, p.1 ≠ C) → J its.length 0 ys → RR (.ref D) C (.ok .next) { s₂ with heap := h, toks := tk }) :
    wpAny (model prog w) A (newList []) (fun acc s₃ => wpAny (model prog w) A (newFunctionEnv scope env.globals cl [] env.qual none .none (some env)) (fun cenv s₄ =>
      codeAny (model prog w) A (.compStart (.ListComp elt [⟨.Name x px, iter, [], 0⟩, ⟨.Name x2 px2, i1, [], 0⟩] scope pos) 0 (.ref I) acc { cenv with scope := relabel scope env }) (RR acc cenv.locals) s₄) E s₃) E s₂ :=
  eps_allz (z := Htw_block.z₀) (P := fun z : Htw_block.Dat => Htw_block.Pre z.1 z.2.1 z.2.2.1 z.2.2.2.1 z.2.2.2.2.1 z.2.2.2.2.2.1 z.2.2.2.2.2.2.1 z.2.2.2.2.2.2.2.1 z.2.2.2.2.2.2.2.2.1 z.2.2.2.2.2.2.2.2.2.1 z.2.2.2.2.2.2.2.2.2.2.1 z.2.2.2.2.2.2.2.2.2.2.2.1 z.2.2.2.2.2.2.2.2.2.2.2.2.1 z.2.2.2.2.2.2.2.2.2.2.2.2.2.1 z.2.2.2.2.2.2.2.2.2.2.2.2.2.2.1 z.2.2.2.2.2.2.2.2.2.2.2.2.2.2.2.1 z.2.2.2.2.2.2.2.2.2.2.2.2.2.2.2.2.1 z.2.2.2.2.2.2.2.2.2.2.2.2.2.2.2.2.2.1 z.2.2.2.2.2.2.2.2.2.2.2.2.2.2.2.2.2.2.1 z.2.2.2.2.2.2.2.2.2.2.2.2.2.2.2.2.2.2.2.1 z.2.2.2.2.2.2.2.2.2.2.2.2.2.2.2.2.2.2.2.2.1 z.2.2.2.2.2.2.2.2.2.2.2.2.2.2.2.2.2.2.2.2.2.1 z.2.2.2.2.2.2.2.2.2.2.2.2.2.2.2.2.2.2.2.2.2.2.1 z.2.2.2.2.2.2.2.2.2.2.2.2.2.2.2.2.2.2.2.2.2.2.2.1 z.2.2.2.2.2.2.2.2.2.2.2.2.2.2.2.2.2.2.2.2.2.2.2.2.1 z.2.2.2.2.2.2.2.2.2.2.2.2.2.2.2.2.2.2.2.2.2.2.2.2.2.1 z.2.2.2.2.2.2.2.2.2.2.2.2.2.2.2.2.2.2.2.2.2.2.2.2.2.2.1 z.2.2.2.2.2.2.2.2.2.2.2.2.2.2.2.2.2.2.2.2.2.2.2.2.2.2.2) (by delta Htw_block.z₀; exact rfl) (by with_unfolding_all exact Htw_block.main) (prog, w, A, E, h₀, L, m, env, elt, iter, i1, x, x2, px, px2, scope, cl, pos, s₂, I, ax, lo, its, G, k, news, J, RR) hh hlc hld hsz hit hax hcell hkind hxa hxb hab F N hIL hI₀ off R hJ hnext hs hRR
noncomputable def TwSrc (prog : Program) (w : World) (A : Around) (h₀ : Heap) (L : Addr) (m : Str → Option Value) (env : Env) (elt i1 : PySem.Expr) (x x2 : Str) (scope : Scope) (cl : List (Str × Addr)) (Fin : Shared → List Value → List (Addr × Obj) → Prop) (xv : Value) (s₁ : Shared) : Prop :=
  ∃ ax lo its k G news J, xv = .ref ax ∧ A.handled = none ∧ Fr h₀ L s₁.heap m ∧ News h₀ L s₁.heap news ∧ (ax, lo) ∈ news ∧ lo.cls = .type "list" ∧ lo.data = .seq (List.toArray its) k ∧ (∀ i j ys, J i j ys → ys.length ≤ sizeLine) ∧ (∀ es i ys, G es → J i (List.length es) ys → J (i + 1) 0 ys) ∧ J 0 0 [] ∧
    ∀ s₂ : Shared, (∃ h, s₂ = { s₁ with heap := h }) → TwOk prog w A h₀ L m env elt i1 x x2 scope cl s₂ its G news J ∧ ∀ ys, J its.length 0 ys → Fin s₂ ys news
theorem tw_src {elt i1 : PySem.Expr} {x x2 : Str} {scope : Scope} {cl : List (Str × Addr)} {Fin : Shared → List Value → List (Addr × Obj) → Prop} {ax : Addr} {its : List Value} {k : Nat} {news : List (Addr × Obj)} (G : List Value → Prop) (J : Nat → Nat → List Value → Prop) {s₁ : Shared}
    (hh : A.handled = none) (F : Fr h₀ L s₁.heap m) (N : News h₀ L s₁.heap news) (hm : (ax, ({ cls := .type "list", data := .seq its.toArray k } : Obj)) ∈ news) (hsz : ∀ i j ys, J i j ys → ys.length ≤ sizeLine) (hnext : ∀ es i ys, G es → J i es.length ys → J (i + 1) 0 ys) (hJ : J 0 0 [])
    (R : ∀ g, TwOk prog w A h₀ L m env elt i1 x x2 scope cl { s₁ with heap := g } its G news J ∧ ∀ ys, J its.length 0 ys → Fin { s₁ with heap := g } ys news) : TwSrc prog w A h₀ L m env elt i1 x x2 scope cl Fin (.ref ax) s₁ :=
  ⟨ax, _, its, k, G, news, J, rfl, hh, F, N, hm, rfl, rfl, hsz, hnext, hJ, fun _ ⟨g, e⟩ => e ▸ R g⟩
end V
namespace Htw_Assign
noncomputable def Pre (prog : Program) (w : World) (A : Around) (E : Value → Shared → Prop) (s : Shared) (h₀ : Heap) (m : Str → Option Value) (env : Env) (elt : PySem.Expr) (iter : PySem.Expr) (i1 : PySem.Expr) (x : Str) (x2 : Str) (y : Str) (px : Pos) (px2 : Pos) (py : Pos) (scope : Scope) (cl : List (Str × Addr)) (pos : Pos) (spos : Pos) (Q : Flow → Shared → Prop) : Prop :=
  ∀ (L : Addr), (Fr h₀ L s.heap m) → (env.locals = L) → (swapsWith (.ListComp elt [⟨.Name x px, iter, [], 0⟩, ⟨.Name x2 px2, i1, [], 0⟩] scope pos) (some (.Name y py)) spos.line env = pure true) → (closureFor scope env = pure cl) → (∀ z ∈ scope.names, z.2 ≠ .cell) → (scope.kind = .function) → (∀ z ∈ scope.names, z.2 = .local → scope.names.lookup z.1 = some .local) → (scope.names.lookup x = some .local) → (scope.names.lookup x2 = some .local) → (¬ x = x2) → (env.kindOf y = some .local) → ((env.scope.kind == .class || (env.scope.kind == .module && env.locals != env.globals)) = false) → (wpAny (model prog w) A (eval iter env) (TwSrc prog w A h₀ L m env elt i1 x x2 scope cl (fun s₂ => LCg.FinA h₀ L m s₂ y Q)) E s) → (∀ x, foldedSetIterable iter env x = pure x) → (∀ C z, foldedSetIterable i1 (compEnvC scope cl C env) z = pure z) → wpAny (model prog w) A (exec (.Assign [.Name y py] (.ListComp elt [⟨.Name x px, iter, [], 0⟩, ⟨.Name x2 px2, i1, [], 0⟩] scope pos) spos) env) Q E s
noncomputable abbrev Dat : Type := Program × World × Around × (Value → Shared → Prop) × Shared × Heap × (Str → Option Value) × Env × PySem.Expr × PySem.Expr × PySem.Expr × Str × Str × Str × Pos × Pos × Pos × Scope × (List (Str × Addr)) × Pos × Pos × (Flow → Shared → Prop)
noncomputable def d₀ : Dat := (default, wd, ⟨none, 0, none, none, 1⟩, (fun _ _ => True), ⟨{}, #[], {}, 1, {}⟩, {}, (fun _ => none), default, default, default, default, (Str.ofString ""), (Str.ofString ""), (Str.ofString ""), default, default, default, default, [], default, default, (fun _ _ => True))
@[irreducible] noncomputable def z₀ : Dat := eps d₀ fun z => ¬ Pre z.1 z.2.1 z.2.2.1 z.2.2.2.1 z.2.2.2.2.1 z.2.2.2.2.2.1 z.2.2.2.2.2.2.1 z.2.2.2.2.2.2.2.1 z.2.2.2.2.2.2.2.2.1 z.2.2.2.2.2.2.2.2.2.1 z.2.2.2.2.2.2.2.2.2.2.1 z.2.2.2.2.2.2.2.2.2.2.2.1 z.2.2.2.2.2.2.2.2.2.2.2.2.1 z.2.2.2.2.2.2.2.2.2.2.2.2.2.1 z.2.2.2.2.2.2.2.2.2.2.2.2.2.2.1 z.2.2.2.2.2.2.2.2.2.2.2.2.2.2.2.1 z.2.2.2.2.2.2.2.2.2.2.2.2.2.2.2.2.1 z.2.2.2.2.2.2.2.2.2.2.2.2.2.2.2.2.2.1 z.2.2.2.2.2.2.2.2.2.2.2.2.2.2.2.2.2.2.1 z.2.2.2.2.2.2.2.2.2.2.2.2.2.2.2.2.2.2.2.1 z.2.2.2.2.2.2.2.2.2.2.2.2.2.2.2.2.2.2.2.2.1 z.2.2.2.2.2.2.2.2.2.2.2.2.2.2.2.2.2.2.2.2.2
@[irreducible] noncomputable def prog : Program := z₀.1
@[irreducible] noncomputable def w : World := z₀.2.1
@[irreducible] noncomputable def A : Around := z₀.2.2.1
@[irreducible] noncomputable def E : Value → Shared → Prop := z₀.2.2.2.1
@[irreducible] noncomputable def s : Shared := z₀.2.2.2.2.1
@[irreducible] noncomputable def h₀ : Heap := z₀.2.2.2.2.2.1
@[irreducible] noncomputable def m : Str → Option Value := z₀.2.2.2.2.2.2.1
@[irreducible] noncomputable def env : Env := z₀.2.2.2.2.2.2.2.1
@[irreducible] noncomputable def elt : PySem.Expr := z₀.2.2.2.2.2.2.2.2.1
@[irreducible] noncomputable def iter : PySem.Expr := z₀.2.2.2.2.2.2.2.2.2.1
@[irreducible] noncomputable def i1 : PySem.Expr := z₀.2.2.2.2.2.2.2.2.2.2.1
@[irreducible] noncomputable def x : Str := z₀.2.2.2.2.2.2.2.2.2.2.2.1
@[irreducible] noncomputable def x2 : Str := z₀.2.2.2.2.2.2.2.2.2.2.2.2.1
@[irreducible] noncomputable def y : Str := z₀.2.2.2.2.2.2.2.2.2.2.2.2.2.1
@[irreducible] noncomputable def px : Pos := z₀.2.2.2.2.2.2.2.2.2.2.2.2.2.2.1
@[irreducible] noncomputable def px2 : Pos := z₀.2.2.2.2.2.2.2.2.2.2.2.2.2.2.2.1
@[irreducible] noncomputable def py : Pos := z₀.2.2.2.2.2.2.2.2.2.2.2.2.2.2.2.2.1
@[irreducible] noncomputable def scope : Scope := z₀.2.2.2.2.2.2.2.2.2.2.2.2.2.2.2.2.2.1
@[irreducible] noncomputable def cl : List (Str × Addr) := z₀.2.2.2.2.2.2.2.2.2.2.2.2.2.2.2.2.2.2.1
@[irreducible] noncomputable def pos : Pos := z₀.2.2.2.2.2.2.2.2.2.2.2.2.2.2.2.2.2.2.2.1
@[irreducible] noncomputable def spos : Pos := z₀.2.2.2.2.2.2.2.2.2.2.2.2.2.2.2.2.2.2.2.2.1
@[irreducible] noncomputable def Q : Flow → Shared → Prop := z₀.2.2.2.2.2.2.2.2.2.2.2.2.2.2.2.2.2.2.2.2.2
theorem main : Pre prog w A E s h₀ m env elt iter i1 x x2 y px px2 py scope cl pos spos Q := by
  intro L _F₀ hLe hsw hclos hcell hkind hnames hxa hxb hab hy hp h hs hs1
  subst hLe
  rw [exec_Assign_Name_used _ _ _ _ hsw]
  refine wpAny_bind (wpAny_standAt (wpAny_bind ?_))
  show wpAny _ A (do let _ ← comprehension (.ListComp elt [⟨.Name x px, iter, [], 0⟩, ⟨.Name x2 px2, i1, [], 0⟩] scope pos) scope env _ (newList []) false (eval iter env) (some (assign (.Name y py) env))) _ _ s
  refine wpAny_bind (wpAny_mono (wpAny_comprehension_free (use := some (assign (.Name y py) env)) (Q := fun _ s' => Q .next s') rfl hs hclos hkind hnames
    (wpAny_mono h (fun xv s₁ h₁ => ?_) fun _ _ e => e)) (fun _ s' hq => wpAny_pure (wpAny_pure hq)) fun _ _ e => e)
  obtain ⟨ax, lo, its, k, G, news, J, rfl, hh, F, N, hax, hlc, hld, hsz, hnext, hJ, R⟩ := h₁
  have hl : s₁.heap.IsList ax its.toArray := ⟨lo, (N _ hax).1, hlc, k, hld⟩
  have hlt : ax < s₁.heap.objs.size := Heap.lt_size (N _ hax).1
  refine wpAny_pyIter_list hl ?_
  have up : ∀ b o, s₁.heap.get? b = some o → (s₁.heap.push { cls := .type "list_iterator", data := .fields #[.ref ax, .int 0 0] }).get? b = some o := fun b o e => Heap.get?_push_of_some _ e
  obtain ⟨R1, R2⟩ := R _ ⟨_, rfl⟩
  refine tw_block (ax := ax) J hh hlc hld hsz ⟨_, Heap.get?_push_size _ rfl, rfl, rfl⟩ hax hcell hkind hxa hxb hab
      (F.keeps up) (N.grown up) (Nat.ne_of_lt F.ns.lt) (next_is_new F) (fun p hp => Nat.ne_of_lt (Heap.lt_size (N p hp).1)) R1 hJ hnext hs1 ?_
  intro D C h' tk m' ys F' N' o1 hn hC₀ hD₀ hCL hDL hCD offC hJn
  have fin := R2 ys hJn
  show wpAny _ A (assign (.Name y py) env (.ref D)) _ _ _
  refine wpAny_assign_Name (wpAny_storeName_local hy F'.ns (fun h₂ hn₂ hs₂ => ?_) hp)
  have hL₀ : h₀.get? env.locals = none := Heap.get?_none_of_le F'.above
  have F₂ : Fr h₀ env.locals h₂ (fun z => if z = y then some (.ref D) else m z) := ⟨hn₂, fun b o e => hs₂.extBut b o (fun q => by rw [q, hL₀] at e; cases e) (F'.keep b o e), F'.above⟩
  refine ⟨m', hn.sameBut hs₂ hCL, fun h'' hs'' => fin D h'' _ (F₂.change hs'' hCL hC₀) (fun p hp => ?_) o1⟩
  have z : h₂.get? p.1 = some p.2 := hs₂.extBut _ _ (N' p hp).2.1 (N' p hp).1
  refine ⟨hs''.extBut _ _ ?_ z, (N' p hp).2⟩
  rcases List.mem_cons.mp hp with rfl | hp
  · exact Ne.symm hCD
  · exact offC p hp
end Htw_Assign
section V
variable {prog : Program} {w : World} {A : Around} {E : Value → Shared → Prop} {s : Shared} {h₀ : Heap} {L : Addr} {m : Str → Option Value} {env : Env}
theorem tw_Assign {elt iter i1 : PySem.Expr} {x x2 y : Str} {px px2 py : Pos} {scope : Scope} {cl : List (Str × Addr)} {pos spos : Pos} {Q : Flow → Shared → Prop} (_F₀ : Fr h₀ L s.heap m) (hLe : env.locals = L)
    (hsw : swapsWith (.ListComp elt [⟨.Name x px, iter, [], 0⟩, ⟨.Name x2 px2, i1, [], 0⟩] scope pos) (some (.Name y py)) spos.line env = pure true)
    (hclos : closureFor scope env = pure cl) (hcell : ∀ z ∈ scope.names, z.2 ≠ .cell) (hkind : scope.kind = .function)
    (hnames : ∀ z ∈ scope.names, z.2 = .local → scope.names.lookup z.1 = some .local) (hxa : scope.names.lookup x = some .local) (hxb : scope.names.lookup x2 = some .local) (hab : ¬ x = x2)
    (hy : env.kindOf y = some .local) (hp : (env.scope.kind == .class || (env.scope.kind == .module && env.locals != env.globals)) = false)
    (h : wpAny (model prog w) A (eval iter env) (TwSrc prog w A h₀ L m env elt i1 x x2 scope cl (fun s₂ => LCg.FinA h₀ L m s₂ y Q)) E s)
    (hs : ∀ x, foldedSetIterable iter env x = pure x := by intro _; rfl) (hs1 : ∀ C z, foldedSetIterable i1 (compEnvC scope cl C env) z = pure z := by intro _ _; rfl) :
    wpAny (model prog w) A (exec (.Assign [.Name y py] (.ListComp elt [⟨.Name x px, iter, [], 0⟩, ⟨.Name x2 px2, i1, [], 0⟩] scope pos) spos) env) Q E s :=
  eps_allz (z := Htw_Assign.z₀) (P := fun z : Htw_Assign.Dat => Htw_Assign.Pre z.1 z.2.1 z.2.2.1 z.2.2.2.1 z.2.2.2.2.1 z.2.2.2.2.2.1 z.2.2.2.2.2.2.1 z.2.2.2.2.2.2.2.1 z.2.2.2.2.2.2.2.2.1 z.2.2.2.2.2.2.2.2.2.1 z.2.2.2.2.2.2.2.2.2.2.1 z.2.2.2.2.2.2.2.2.2.2.2.1 z.2.2.2.2.2.2.2.2.2.2.2.2.1 z.2.2.2.2.2.2.2.2.2.2.2.2.2.1 z.2.2.2.2.2.2.2.2.2.2.2.2.2.2.1 z.2.2.2.2.2.2.2.2.2.2.2.2.2.2.2.1 z.2.2.2.2.2.2.2.2.2.2.2.2.2.2.2.2.1 z.2.2.2.2.2.2.2.2.2.2.2.2.2.2.2.2.2.1 z.2.2.2.2.2.2.2.2.2.2.2.2.2.2.2.2.2.2.1 z.2.2.2.2.2.2.2.2.2.2.2.2.2.2.2.2.2.2.2.1 z.2.2.2.2.2.2.2.2.2.2.2.2.2.2.2.2.2.2.2.2.1 z.2.2.2.2.2.2.2.2.2.2.2.2.2.2.2.2.2.2.2.2.2) (by delta Htw_Assign.z₀; exact rfl) (by with_unfolding_all exact Htw_Assign.main) (prog, w, A, E, s, h₀, m, env, elt, iter, i1, x, x2, y, px, px2, py, scope, cl, pos, spos, Q) L _F₀ hLe hsw hclos hcell hkind hnames hxa hxb hab hy hp h hs hs1
/-- a comprehension along a written tuple -/
noncomputable def TuSrc (prog : Program) (w : World) (A : Around) (h₀ : Heap) (L : Addr) (m : Str → Option Value) (env : Env) (elt : PySem.Expr) (x : Str) (scope : Scope) (cl : List (Str × Addr)) (Fin : Shared → List Value → List (Addr × Obj) → Prop) (xv : Value) (s₁ : Shared) : Prop :=
  ∃ T es news, xv = .ref T ∧ A.handled = none ∧ Fr h₀ L s₁.heap m ∧ News h₀ L s₁.heap news ∧ (T, tupO es) ∈ news ∧ es.length ≤ sizeLine ∧
    ∀ s₂ : Shared, (∃ h, s₂ = { s₁ with heap := h }) → CompRest prog w A h₀ L m env elt x scope cl s₂ (fun nw => (T, tupO es) ∈ nw) (fun i v => es[i]? = some v) (Fin s₂) es.length 0 [] news
theorem tu_src {elt : PySem.Expr} {x : Str} {scope : Scope} {cl : List (Str × Addr)} {Fin : Shared → List Value → List (Addr × Obj) → Prop} {T : Addr} {es : List Value} {news : List (Addr × Obj)} {s₁ : Shared}
    (hh : A.handled = none) (F : Fr h₀ L s₁.heap m) (N : News h₀ L s₁.heap news) (hm : (T, tupO es) ∈ news) (hsz : es.length ≤ sizeLine)
    (h : ∀ g, CompRest prog w A h₀ L m env elt x scope cl { s₁ with heap := g } (fun nw => (T, tupO es) ∈ nw) (fun i v => es[i]? = some v) (Fin { s₁ with heap := g }) es.length 0 [] news) :
    TuSrc prog w A h₀ L m env elt x scope cl Fin (.ref T) s₁ := ⟨T, es, news, rfl, hh, F, N, hm, hsz, fun _ ⟨g, e⟩ => e ▸ h g⟩
theorem tu_ListComp {elt iter : PySem.Expr} {x : Str} {px : Pos} {scope : Scope} {cl : List (Str × Addr)} {pos : Pos} {Q : Value → Shared → Prop} (_F₀ : Fr h₀ L s.heap m)
    (hclos : closureFor scope env = pure cl) (hcell : ∀ y ∈ scope.names, y.2 ≠ .cell) (hkind : scope.kind = .function)
    (hnames : ∀ y ∈ scope.names, y.2 = .local → scope.names.lookup y.1 = some .local) (hx : scope.names.lookup x = some .local)
    (h : wpAny (model prog w) A (eval iter env) (TuSrc prog w A h₀ L m env elt x scope cl (fun s₂ => LCg.FinE h₀ L m s₂ Q)) E s)
    (hs : ∀ x, foldedSetIterable iter env x = pure x := by intro _; rfl) :
    wpAny (model prog w) A (eval (.ListComp elt [⟨.Name x px, iter, [], 0⟩] scope pos) env) Q E s := by
  rw [eval_ListComp]
  refine wpAny_comprehension_free (use := none) rfl hs hclos hkind hnames (wpAny_mono h (fun xv s₁ h₁ => ?_) fun _ _ e => e)
  obtain ⟨T, es, news, rfl, hh, F, N, hm, hsz, R⟩ := h₁
  have hT : s₁.heap.IsTuple T es.toArray := ⟨_, (N _ hm).1, rfl, _, rfl⟩
  have hlt : T < s₁.heap.objs.size := Heap.lt_size (N _ hm).1
  refine wpAny_pyIter_tuple hT ?_
  have up : ∀ b o, s₁.heap.get? b = some o → (s₁.heap.push { cls := .type "tuple_iterator", data := .fields #[.ref T, .int 0 0] }).get? b = some o := fun b o e => Heap.get?_push_of_some _ e
  have W := Walks.tuple (prog := prog) (w := w) (A := A) hh s₁.heap.objs.size T (Nat.ne_of_lt hlt) es.toArray
  have hsz' : es.toArray.size = es.length := List.size_toArray ..
  refine block_U (S := fun nw => (T, tupO es) ∈ nw) (n := es.toArray.size) (P := fun i v => es[i]? = some v) { sub := W.sub, frame := W.frame, done := W.done, self := W.self, item := fun i s Q E hi st hQ => W.item i s Q E hi st fun v h' tk hP => hQ v h' tk (by simpa using hP) } (by rw [hsz']; exact hsz) (fun i h st => by obtain ⟨o, e, _⟩ := st.1; exact ⟨o, e⟩)
      (fun i h h' o nw st e e' k N S => ⟨by obtain ⟨o', q, r⟩ := st.1; rw [e] at q; cases q; exact ⟨o, e', r⟩, ⟨_, (N _ S).1, rfl, _, rfl⟩⟩) hcell hkind hx ⟨⟨_, Heap.get?_push_size _ rfl, rfl, rfl⟩, hT.push _⟩ (fun b hb => ?_)
      (F.keeps up) (N.grown up) (Nat.ne_of_lt F.ns.lt) (next_is_new F) (fun p hp => Nat.ne_of_lt (Heap.lt_size (N p hp).1)) hm (by rw [hsz']; exact R _ ⟨_, rfl⟩) ?_
  · show b < (s₁.heap.push _).objs.size
    rw [Heap.size_push]
    rcases List.mem_cons.mp hb with rfl | hb
    · exact Nat.lt_succ_self _
    · rw [List.mem_singleton.mp hb]; exact Nat.lt_succ_of_lt hlt
  · intro D C h tk m' ys news' F' N' o1 hn hC₀ hD₀ hCL hDL hCD offC fin
    refine ⟨m', hn, fun h'' hs'' => fin D h'' tk (F'.change hs'' hCL hC₀) (fun p hp => ?_) o1⟩
    refine ⟨hs''.extBut _ _ ?_ (N' p hp).1, (N' p hp).2⟩
    rcases List.mem_cons.mp hp with rfl | hp
    · exact Ne.symm hCD
    · exact offC p hp
end V
end
end
section
open PySem.W.X PyProof.Rows.LCg
noncomputable def LkEl (h₀ : Heap) (L : Addr) (m : Str → Option Value) (s : Shared) (I : Addr) (oI : Obj) (C : Addr) (oC : Obj) (D : Addr) (oD : Obj) (S : List (Addr × Obj) → Prop) (J : Value → List (Addr × Obj) → Prop) (y : Value) (s₃ : Shared) : Prop := ∃ h' tk' nw', s₃ = { s with heap := h', toks := tk' } ∧ Fr h₀ L h' m ∧ News h₀ L h' ((I, oI) :: (C, oC) :: (D, oD) :: nw') ∧ Off3 I C D nw' ∧ S nw' ∧ J y nw'
/-- what an element of a comprehension owes, tokens from below -/
noncomputable def LkOk (prog : Program) (w : World) (A : Around) (h₀ : Heap) (L : Addr) (m : Str → Option Value) (env : Env) (elt : PySem.Expr) (x : Str) (scope : Scope) (cl : List (Str × Addr)) (s : Shared) (n0 : Nat) (S : List (Addr × Obj) → Prop) (P : Nat → Value → Prop) (n : Nat) (J : Nat → List Value → List (Addr × Obj) → Prop) : Prop :=
  ∀ i v ys nw I oI C oC D m₂ h tk (E' : Value → Shared → Prop), i < n → @LE.le Nat _ n0 tk → P i v → J i ys nw → S nw → NsObj oC m₂ → m₂ x = some v → Fr h₀ L h m → News h₀ L h ((I, oI) :: (C, oC) :: (D, LCg.lst ys) :: nw) → Off3 I C D nw → ((@Ne Nat I C) ∧ (@Ne Nat I D) ∧ (@Ne Nat C D)) →
    wpAny (model prog w) A (eval elt (compEnvC scope cl C env)) (LkEl h₀ L m s I oI C oC D (LCg.lst ys) S (fun y nw' => J (i + 1) (ys ++ [y]) nw')) E' { s with heap := h, toks := tk }
section
section V
variable {prog : Program} {w : World} {A : Around} {E : Value → Shared → Prop} {s : Shared} {h₀ : Heap} {L : Addr} {m : Str → Option Value} {env : Env}
end V
namespace Hlk_block
noncomputable def Pre (prog : Program) (w : World) (A : Around) (E : Value → Shared → Prop) (h₀ : Heap) (L : Addr) (m : Str → Option Value) (env : Env) (elt : PySem.Expr) (iter : PySem.Expr) (x : Str) (px : Pos) (scope : Scope) (cl : List (Str × Addr)) (pos : Pos) (s₂ : Shared) (I : Addr) (fp : List Addr) (n : Nat) (n0 : Nat) (P : Nat → Value → Prop) (St : Nat → Heap → Prop) (S : List (Addr × Obj) → Prop) (news : List (Addr × Obj)) (J : Nat → List Value → List (Addr × Obj) → Prop) (RR : Value → Addr → Result → Shared → Prop) : Prop :=
  (Walks prog w A I fp [I] n P St) → (n ≤ sizeLine) → (@LE.le Nat _ n0 s₂.toks) → (∀ i h, St i h → ∃ o, h.get? I = some o) → (∀ i h h' o nw, St i h → h.get? I = some o → h'.get? I = some o → (∀ b o, h₀.get? b = some o → h'.get? b = some o) → News h₀ L h' nw → S nw → St i h') → (∀ y ∈ scope.names, y.2 ≠ .cell) → (scope.kind = .function) → (scope.names.lookup x = some .local) → (St 0 s₂.heap) → (∀ b ∈ fp, b < s₂.heap.objs.size) → (Fr h₀ L s₂.heap m) → (News h₀ L s₂.heap news) → (L ≠ I) → (h₀.get? I = none) → (∀ p ∈ news, p.1 ≠ I) → (S news) → (LkOk prog w A h₀ L m env elt x scope cl s₂ n0 S P n J) → (J 0 [] news) → (∀ D C h tk m' ys news', Fr h₀ L h m → News h₀ L h ((D, LCg.lst ys) :: news') → Off1 D news' → h.Ns C m' → h₀.get? C = none → h₀.get? D = none → C ≠ L → D ≠ L → C ≠ D → (∀ p ∈ news', p.1 ≠ C) → J n ys news' → RR (.ref D) C (.ok .next) { s₂ with heap := h, toks := tk }) → wpAny (model prog w) A (newList []) (fun acc s₃ => wpAny (model prog w) A (newFunctionEnv scope env.globals cl [] env.qual none .none (some env)) (fun cenv s₄ =>
      codeAny (model prog w) A (.compStart (.ListComp elt [⟨.Name x px, iter, [], 0⟩] scope pos) 0 (.ref I) acc { cenv with scope := relabel scope env }) (RR acc cenv.locals) s₄) E s₃) E s₂
noncomputable abbrev Dat : Type := Program × World × Around × (Value → Shared → Prop) × Heap × Addr × (Str → Option Value) × Env × PySem.Expr × PySem.Expr × Str × Pos × Scope × (List (Str × Addr)) × Pos × Shared × Addr × (List Addr) × Nat × Nat × (Nat → Value → Prop) × (Nat → Heap → Prop) × (List (Addr × Obj) → Prop) × (List (Addr × Obj)) × (Nat → List Value → List (Addr × Obj) → Prop) × (Value → Addr → Result → Shared → Prop)
noncomputable def d₀ : Dat := (default, wd, ⟨none, 0, none, none, 1⟩, (fun _ _ => True), {}, (0 : Nat), (fun _ => none), default, default, default, (Str.ofString ""), default, default, [], default, ⟨{}, #[], {}, 1, {}⟩, (0 : Nat), [], 0, 0, (fun _ _ => True), (fun _ _ => True), (fun _ => True), [], (fun _ _ _ => True), (fun _ _ _ _ => True))
@[irreducible] noncomputable def z₀ : Dat := eps d₀ fun z => ¬ Pre z.1 z.2.1 z.2.2.1 z.2.2.2.1 z.2.2.2.2.1 z.2.2.2.2.2.1 z.2.2.2.2.2.2.1 z.2.2.2.2.2.2.2.1 z.2.2.2.2.2.2.2.2.1 z.2.2.2.2.2.2.2.2.2.1 z.2.2.2.2.2.2.2.2.2.2.1 z.2.2.2.2.2.2.2.2.2.2.2.1 z.2.2.2.2.2.2.2.2.2.2.2.2.1 z.2.2.2.2.2.2.2.2.2.2.2.2.2.1 z.2.2.2.2.2.2.2.2.2.2.2.2.2.2.1 z.2.2.2.2.2.2.2.2.2.2.2.2.2.2.2.1 z.2.2.2.2.2.2.2.2.2.2.2.2.2.2.2.2.1 z.2.2.2.2.2.2.2.2.2.2.2.2.2.2.2.2.2.1 z.2.2.2.2.2.2.2.2.2.2.2.2.2.2.2.2.2.2.1 z.2.2.2.2.2.2.2.2.2.2.2.2.2.2.2.2.2.2.2.1 z.2.2.2.2.2.2.2.2.2.2.2.2.2.2.2.2.2.2.2.2.1 z.2.2.2.2.2.2.2.2.2.2.2.2.2.2.2.2.2.2.2.2.2.1 z.2.2.2.2.2.2.2.2.2.2.2.2.2.2.2.2.2.2.2.2.2.2.1 z.2.2.2.2.2.2.2.2.2.2.2.2.2.2.2.2.2.2.2.2.2.2.2.1 z.2.2.2.2.2.2.2.2.2.2.2.2.2.2.2.2.2.2.2.2.2.2.2.2.1 z.2.2.2.2.2.2.2.2.2.2.2.2.2.2.2.2.2.2.2.2.2.2.2.2.2
@[irreducible] noncomputable def prog : Program := z₀.1
@[irreducible] noncomputable def w : World := z₀.2.1
@[irreducible] noncomputable def A : Around := z₀.2.2.1
@[irreducible] noncomputable def E : Value → Shared → Prop := z₀.2.2.2.1
@[irreducible] noncomputable def h₀ : Heap := z₀.2.2.2.2.1
@[irreducible] noncomputable def L : Addr := z₀.2.2.2.2.2.1
@[irreducible] noncomputable def m : Str → Option Value := z₀.2.2.2.2.2.2.1
@[irreducible] noncomputable def env : Env := z₀.2.2.2.2.2.2.2.1
@[irreducible] noncomputable def elt : PySem.Expr := z₀.2.2.2.2.2.2.2.2.1
@[irreducible] noncomputable def iter : PySem.Expr := z₀.2.2.2.2.2.2.2.2.2.1
@[irreducible] noncomputable def x : Str := z₀.2.2.2.2.2.2.2.2.2.2.1
@[irreducible] noncomputable def px : Pos := z₀.2.2.2.2.2.2.2.2.2.2.2.1
@[irreducible] noncomputable def scope : Scope := z₀.2.2.2.2.2.2.2.2.2.2.2.2.1
@[irreducible] noncomputable def cl : List (Str × Addr) := z₀.2.2.2.2.2.2.2.2.2.2.2.2.2.1
@[irreducible] noncomputable def pos : Pos := z₀.2.2.2.2.2.2.2.2.2.2.2.2.2.2.1
@[irreducible] noncomputable def s₂ : Shared := z₀.2.2.2.2.2.2.2.2.2.2.2.2.2.2.2.1
@[irreducible] noncomputable def I : Addr := z₀.2.2.2.2.2.2.2.2.2.2.2.2.2.2.2.2.1
@[irreducible] noncomputable def fp : List Addr := z₀.2.2.2.2.2.2.2.2.2.2.2.2.2.2.2.2.2.1
@[irreducible] noncomputable def n : Nat := z₀.2.2.2.2.2.2.2.2.2.2.2.2.2.2.2.2.2.2.1
@[irreducible] noncomputable def n0 : Nat := z₀.2.2.2.2.2.2.2.2.2.2.2.2.2.2.2.2.2.2.2.1
@[irreducible] noncomputable def P : Nat → Value → Prop := z₀.2.2.2.2.2.2.2.2.2.2.2.2.2.2.2.2.2.2.2.2.1
@[irreducible] noncomputable def St : Nat → Heap → Prop := z₀.2.2.2.2.2.2.2.2.2.2.2.2.2.2.2.2.2.2.2.2.2.1
@[irreducible] noncomputable def S : List (Addr × Obj) → Prop := z₀.2.2.2.2.2.2.2.2.2.2.2.2.2.2.2.2.2.2.2.2.2.2.1
@[irreducible] noncomputable def news : List (Addr × Obj) := z₀.2.2.2.2.2.2.2.2.2.2.2.2.2.2.2.2.2.2.2.2.2.2.2.1
@[irreducible] noncomputable def J : Nat → List Value → List (Addr × Obj) → Prop := z₀.2.2.2.2.2.2.2.2.2.2.2.2.2.2.2.2.2.2.2.2.2.2.2.2.1
@[irreducible] noncomputable def RR : Value → Addr → Result → Shared → Prop := z₀.2.2.2.2.2.2.2.2.2.2.2.2.2.2.2.2.2.2.2.2.2.2.2.2.2
theorem main : Pre prog w A E h₀ L m env elt iter x px scope cl pos s₂ I fp n n0 P St S news J RR := by
  intro W hsz hn0 hIo hSt hcell hkind hx hst hfp F N hIL hI₀ off hS R hJ hRR
  refine wpAny_newObj_type (wpAny_newFunctionEnv hcell (by intro y hy; simp at hy) (fun h₁ hns₁ hsb₁ => ?_) hkind)
  dsimp only at hns₁ hsb₁ ⊢
  generalize hH2 : s₂.heap.push { cls := .type "list", dict := none, data := .seq ([] : List Value).toArray } = H2 at hns₁ hsb₁ ⊢
  have hC : H2.objs.size = s₂.heap.objs.size + 1 := by rw [← hH2, Heap.size_push]
  have hDC : s₂.heap.objs.size ≠ H2.objs.size := by rw [hC]; exact Nat.ne_of_lt (Nat.lt_succ_self _)
  have below : ∀ b, b < s₂.heap.objs.size → b ≠ H2.objs.size ∧ b ≠ s₂.heap.objs.size := fun b hb => ⟨by rw [hC]; exact Nat.ne_of_lt (Nat.lt_succ_of_lt hb), Nat.ne_of_lt hb⟩
  have hDf : s₂.heap.objs.size ∉ fp := fun hm => Nat.lt_irrefl _ (hfp _ hm)
  have hCf : H2.objs.size ∉ fp := fun hm => by have := hfp _ hm; rw [hC] at this; exact Nat.lt_irrefl _ (Nat.lt_of_succ_lt this)
  have hIlt : I < s₂.heap.objs.size := hfp I (W.sub I (List.mem_singleton.mpr rfl))
  have old : ∀ b o, s₂.heap.get? b = some o → h₁.get? b = some o := fun b o e => hsb₁.extBut b o (below b (Heap.lt_size e)).1 (Heap.get?_push_of_some _ (hH2 ▸ Heap.get?_push_of_some _ e))
  have hacc : h₁.get? s₂.heap.objs.size = some (LCg.lst []) := hsb₁.extBut _ _ hDC (Heap.get?_push_of_some _ (hH2 ▸ Heap.get?_push_size _ rfl))
  have hst₁ : St 0 h₁ := W.frame _ _ _ hst fun b _ o e => old b o e
  have fresh₀ : ∀ a, s₂.heap.objs.size ≤ a → h₀.get? a = none := fun a ha => by
    cases q : h₀.get? a with
    | none => rfl
    | some o' => exact absurd (Heap.lt_size (F.keep a o' q)) (Nat.not_lt.mpr ha)
  have hD₀ : h₀.get? s₂.heap.objs.size = none := fresh₀ _ (Nat.le_refl _)
  have hC₀ : h₀.get? H2.objs.size = none := fresh₀ _ (by rw [hC]; exact Nat.le_succ _)
  have hLlt : L < s₂.heap.objs.size := F.ns.lt
  have hDL : s₂.heap.objs.size ≠ L := Ne.symm (below L hLlt).2
  have hCL : H2.objs.size ≠ L := Ne.symm (below L hLlt).1
  have hCI : I ≠ H2.objs.size := (below I hIlt).1
  have hDI : I ≠ s₂.heap.objs.size := (below I hIlt).2
  have off₀ : Off3 I H2.objs.size s₂.heap.objs.size news := Off3.of fun p hp => ⟨off p hp, (below _ (Heap.lt_size (N p hp).1)).1, (below _ (Heap.lt_size (N p hp).1)).2⟩
  have loop : ∀ s₃ : Shared, s₃ = { s₂ with heap := h₁, toks := s₂.toks + ([] : List (Str × Value)).length } →
      codeAny (model prog w) A (.compLoop (.ListComp elt [⟨.Name x px, iter, [], 0⟩] scope pos) 0 (.ref I) (.ref s₂.heap.objs.size) (compEnvC scope cl H2.objs.size env))
        (RR (.ref s₂.heap.objs.size) H2.objs.size) s₃ := by
    rintro s₃ rfl
    refine codeAny_compLoop_tests
      (fun k s' => ∃ h' tk i ys m' news', s' = { s₂ with heap := h', toks := tk } ∧ @LE.le Nat _ n0 tk ∧ i ≤ n ∧ k = n + 1 - i ∧ ys.length = i ∧ St i h' ∧ Fr h₀ L h' m ∧ h'.Ns H2.objs.size m' ∧ News h₀ L h' ((s₂.heap.objs.size, LCg.lst ys) :: news') ∧
        Off3 I H2.objs.size s₂.heap.objs.size news' ∧ S news' ∧ J i ys news') ?_ (n + 1)
      ⟨h₁, _, 0, [], _, news, rfl, hn0, Nat.zero_le _, rfl, rfl, hst₁, F.keeps old, hns₁, fun p hp => ?_, off₀, hS, hJ⟩
    · rintro k s' ⟨h', tk, i, ys, m', news', rfl, htk, hi, rfl, hyl, hst', F', hn', N', off', hS', hJ'⟩
      by_cases hlt : i < n
      · refine wpAny_with_toks (n := n0) htk (W.item i _ _ _ hlt hst' fun v h₂ tk₂ hPv hst₂ hk₂ htk₂ => ?_)
        refine wpAny_assign_Name (wpAny_storeName_local (lookup_relabel_local hx) (hn'.at' fun o e => hk₂ _ o (by simpa using Ne.symm hCI) e) (fun h₃ hn₃ hs₃ => ?_) (by simp [compEnvC, relabel, hkind]))
        refine wpAny_tests_nil ?_
        simp only [if_true]
        have hst₃ : St (i + 1) h₃ := W.frame _ _ _ hst₂ fun b hb o e => hs₃.extBut b o (fun q => hCf (by have q' : b = H2.objs.size := q; rw [← q']; exact hb)) e
        obtain ⟨oI, heI⟩ := hIo _ _ hst₃
        obtain ⟨oC, heC, hoC⟩ := ns_obj hn₃
        have F₃ : Fr h₀ L h₃ m := (fr_but F' hk₂ hIL hI₀).change hs₃ hCL hC₀
        have off3 := off'.mem
        have N₂ : News h₀ L h₂ ((s₂.heap.objs.size, LCg.lst ys) :: news') := news_but N' hk₂ fun p hp => by
          rcases List.mem_cons.mp hp with rfl | hp
          · exact Ne.symm hDI
          · exact (off3 p hp).1
        have N₃ : News h₀ L h₃ ((I, oI) :: (H2.objs.size, oC) :: (s₂.heap.objs.size, LCg.lst ys) :: news') := fun p hp => by
          rcases List.mem_cons.mp hp with rfl | hp
          · exact ⟨heI, Ne.symm hIL, hI₀⟩
          · rcases List.mem_cons.mp hp with rfl | hp
            · exact ⟨heC, hCL, hC₀⟩
            · have z := N₂ p hp
              refine ⟨hs₃.extBut _ _ ?_ z.1, z.2⟩
              rcases List.mem_cons.mp hp with rfl | hp
              · exact hDC
              · exact (off3 p hp).2.1
        refine wpAny_mono (wpAny_toks_of (n := n0) (Nat.le_succ_of_le htk₂) (R i v ys news' I oI H2.objs.size oC s₂.heap.objs.size _ h₃ _ _ hlt (Nat.le_succ_of_le htk₂) hPv hJ' hS' hoC (by simp) F₃ N₃ off' ⟨hCI, hDI, Ne.symm hDC⟩)) (fun y s₄ h₄ => ?_) fun _ _ e => e.2
        obtain ⟨htk₄, h₄, tk₄, news₄, rfl, F₄, N₄, off₄, hS₄, R₄⟩ := h₄
        have zI := (N₄ (I, oI) List.mem_cons_self).1
        have zC := (N₄ (H2.objs.size, oC) (List.mem_cons_of_mem _ List.mem_cons_self)).1
        have zD := (N₄ (s₂.heap.objs.size, LCg.lst ys) (List.mem_cons_of_mem _ (List.mem_cons_of_mem _ List.mem_cons_self))).1
        have N₄' : News h₀ L h₄ news₄ := fun p hp => N₄ p (List.mem_cons_of_mem _ (List.mem_cons_of_mem _ (List.mem_cons_of_mem _ hp)))
        have hst₄ : St (i + 1) h₄ := hSt _ _ _ _ _ hst₃ heI zI F₄.keep N₄' hS₄
        refine append_at (hsz := by show ys.toArray.size ≤ sizeLine; rw [List.size_toArray, hyl]; exact Nat.le_trans hi hsz) zD fun h₅ hs₅ hD₅ => ?_
        have off4 := off₄.mem
        refine ⟨n + 1 - (i + 1), by omega, h₅, tk₄, i + 1, ys ++ [y], _, news₄, rfl, htk₄, hlt, rfl, by rw [List.length_append, List.length_singleton, hyl], W.frame _ _ _ hst₄ fun b hb o e => hs₅.extBut b o (fun q => hDf (q ▸ hb)) e, F₄.change hs₅ hDL hD₀,
          (hoC.ns zC).sameBut hs₅ (Ne.symm hDC), fun p hp => ?_, off₄, hS₄, R₄⟩
        rcases List.mem_cons.mp hp with rfl | hp
        · exact ⟨hD₅.trans (congrArg some (lst_snoc ys y)), hDL, hD₀⟩
        · exact ⟨hs₅.extBut _ _ (off4 p hp).2.2 (N₄' p hp).1, (N₄' p hp).2⟩
      · have hin : i = n := Nat.le_antisymm hi (Nat.not_lt.mp hlt)
        subst hin
        refine W.done _ _ _ hst' fun h₂ tk₂ hk₂ => ?_
        have off3 := off'.mem
        exact hRR _ _ h₂ tk₂ _ ys news' (fr_but F' hk₂ hIL hI₀) (news_but N' hk₂ fun p hp => by
          rcases List.mem_cons.mp hp with rfl | hp
          · exact Ne.symm hDI
          · exact (off3 p hp).1) off'.one (hn'.at' fun o e => hk₂ _ o (by simpa using Ne.symm hCI) e) hC₀ hD₀ hCL hDL (Ne.symm hDC) (fun p hp => (off3 p hp).2.1) hJ'
    · rcases List.mem_cons.mp hp with rfl | hp
      · exact ⟨hacc, hDL, hD₀⟩
      · exact ⟨old _ _ (N p hp).1, (N p hp).2⟩
  exact codeAny_compStart_list (loop _ rfl) (W.self 0 _ _ _ hst₁ (loop _ rfl))
end Hlk_block
section V
variable {prog : Program} {w : World} {A : Around} {E : Value → Shared → Prop} {s : Shared} {h₀ : Heap} {L : Addr} {m : Str → Option Value} {env : Env}
theorem lk_block {elt iter : PySem.Expr} {x : Str} {px : Pos} {scope : Scope} {cl : List (Str × Addr)} {pos : Pos} {s₂ : Shared} {I : Addr} {fp : List Addr} {n n0 : Nat} {P : Nat → Value → Prop} {St : Nat → Heap → Prop} {S : List (Addr × Obj) → Prop} {news : List (Addr × Obj)}
    (J : Nat → List Value → List (Addr × Obj) → Prop) {RR : Value → Addr → Result → Shared → Prop}
    (W : Walks prog w A I fp [I] n P St) (hsz : n ≤ sizeLine) (hn0 : @LE.le Nat _ n0 s₂.toks) (hIo : ∀ i h, St i h → ∃ o, h.get? I = some o)
    (hSt : ∀ i h h' o nw, St i h → h.get? I = some o → h'.get? I = some o → (∀ b o, h₀.get? b = some o → h'.get? b = some o) → News h₀ L h' nw → S nw → St i h')
    (hcell : ∀ y ∈ scope.names, y.2 ≠ .cell) (hkind : scope.kind = .function) (hx : scope.names.lookup x = some .local) (hst : St 0 s₂.heap) (hfp : ∀ b ∈ fp, b < s₂.heap.objs.size)
    (F : Fr h₀ L s₂.heap m) (N : News h₀ L s₂.heap news) (hIL : L ≠ I) (hI₀ : h₀.get? I = none) (off : ∀ p ∈ news, p.1 ≠ I) (hS : S news)
    (R : LkOk prog w A h₀ L m env elt x scope cl s₂ n0 S P n J) (hJ : J 0 [] news)
    (hRR : ∀ D C h tk m' ys news', Fr h₀ L h m → News h₀ L h ((D, LCg.lst ys) :: news') → Off1 D news' → h.Ns C m' → h₀.get? C = none → h₀.get? D = none → C ≠ L → D ≠ L → C ≠ D → (∀ p ∈ news', p.1 ≠ C) → J n ys news' → RR (.ref D) C (.ok .next) { s₂ with heap := h, toks := tk }) :
    wpAny (model prog w) A (newList []) (fun acc s₃ => wpAny (model prog w) A (newFunctionEnv scope env.globals cl [] env.qual none .none (some env)) (fun cenv s₄ =>
      codeAny (model prog w) A (.compStart (.ListComp elt [⟨.Name x px, iter, [], 0⟩] scope pos) 0 (.ref I) acc { cenv with scope := relabel scope env }) (RR acc cenv.locals) s₄) E s₃) E s₂ :=
  eps_allz (z := Hlk_block.z₀) (P := fun z : Hlk_block.Dat => Hlk_block.Pre z.1 z.2.1 z.2.2.1 z.2.2.2.1 z.2.2.2.2.1 z.2.2.2.2.2.1 z.2.2.2.2.2.2.1 z.2.2.2.2.2.2.2.1 z.2.2.2.2.2.2.2.2.1 z.2.2.2.2.2.2.2.2.2.1 z.2.2.2.2.2.2.2.2.2.2.1 z.2.2.2.2.2.2.2.2.2.2.2.1 z.2.2.2.2.2.2.2.2.2.2.2.2.1 z.2.2.2.2.2.2.2.2.2.2.2.2.2.1 z.2.2.2.2.2.2.2.2.2.2.2.2.2.2.1 z.2.2.2.2.2.2.2.2.2.2.2.2.2.2.2.1 z.2.2.2.2.2.2.2.2.2.2.2.2.2.2.2.2.1 z.2.2.2.2.2.2.2.2.2.2.2.2.2.2.2.2.2.1 z.2.2.2.2.2.2.2.2.2.2.2.2.2.2.2.2.2.2.1 z.2.2.2.2.2.2.2.2.2.2.2.2.2.2.2.2.2.2.2.1 z.2.2.2.2.2.2.2.2.2.2.2.2.2.2.2.2.2.2.2.2.1 z.2.2.2.2.2.2.2.2.2.2.2.2.2.2.2.2.2.2.2.2.2.1 z.2.2.2.2.2.2.2.2.2.2.2.2.2.2.2.2.2.2.2.2.2.2.1 z.2.2.2.2.2.2.2.2.2.2.2.2.2.2.2.2.2.2.2.2.2.2.2.1 z.2.2.2.2.2.2.2.2.2.2.2.2.2.2.2.2.2.2.2.2.2.2.2.2.1 z.2.2.2.2.2.2.2.2.2.2.2.2.2.2.2.2.2.2.2.2.2.2.2.2.2) (by delta Hlk_block.z₀; exact rfl) (by with_unfolding_all exact Hlk_block.main) (prog, w, A, E, h₀, L, m, env, elt, iter, x, px, scope, cl, pos, s₂, I, fp, n, n0, P, St, S, news, J, RR) W hsz hn0 hIo hSt hcell hkind hx hst hfp F N hIL hI₀ off hS R hJ hRR
/-- the source: a list or a written tuple of the ledger -/
noncomputable def LkSrc (prog : Program) (w : World) (A : Around) (h₀ : Heap) (L : Addr) (m : Str → Option Value) (env : Env) (elt : PySem.Expr) (x : Str) (scope : Scope) (cl : List (Str × Addr)) (n0 : Nat) (Fin : Shared → List Value → List (Addr × Obj) → Prop) (xv : Value) (s₁ : Shared) : Prop :=
  ∃ ax o its news J, xv = .ref ax ∧ A.handled = none ∧ Fr h₀ L s₁.heap m ∧ News h₀ L s₁.heap news ∧ (ax, o) ∈ news ∧ (o = tupO its ∨ ∃ k, o = lst' its k) ∧ its.length ≤ sizeLine ∧ J 0 [] news ∧
    ∀ s₂ : Shared, (∃ h, s₂ = { s₁ with heap := h }) → LkOk prog w A h₀ L m env elt x scope cl s₂ n0 (fun nw => (ax, o) ∈ nw) (fun i v => its[i]? = some v) its.length J ∧ ∀ ys nw, J its.length ys nw → Fin s₂ ys nw
where lst' (its : List Value) (k : Nat) : Obj := { cls := .type "list", data := .seq its.toArray k }
theorem lk_src {elt : PySem.Expr} {x : Str} {scope : Scope} {cl : List (Str × Addr)} {n0 : Nat} {Fin : Shared → List Value → List (Addr × Obj) → Prop} {ax : Addr} {its : List Value} {o : Obj} {news : List (Addr × Obj)} (J : Nat → List Value → List (Addr × Obj) → Prop) {s₁ : Shared}
    (hh : A.handled = none) (F : Fr h₀ L s₁.heap m) (N : News h₀ L s₁.heap news) (hm : (ax, o) ∈ news) (ho : o = tupO its ∨ ∃ k, o = LkSrc.lst' its k) (hsz : its.length ≤ sizeLine) (hJ : J 0 [] news)
    (R : ∀ g, LkOk prog w A h₀ L m env elt x scope cl { s₁ with heap := g } n0 (fun nw => (ax, o) ∈ nw) (fun i v => its[i]? = some v) its.length J ∧ ∀ ys nw, J its.length ys nw → Fin { s₁ with heap := g } ys nw) : LkSrc prog w A h₀ L m env elt x scope cl n0 Fin (.ref ax) s₁ :=
  ⟨ax, o, its, news, J, rfl, hh, F, N, hm, ho, hsz, hJ, fun _ ⟨g, e⟩ => e ▸ R g⟩
end V
namespace Hlk_ListComp
noncomputable def Pre (prog : Program) (w : World) (A : Around) (E : Value → Shared → Prop) (s : Shared) (h₀ : Heap) (L : Addr) (m : Str → Option Value) (env : Env) (elt : PySem.Expr) (iter : PySem.Expr) (x : Str) (px : Pos) (scope : Scope) (cl : List (Str × Addr)) (pos : Pos) (Q : Value → Shared → Prop) (n0 : Nat) : Prop :=
  (@LE.le Nat _ n0 s.toks) → (Fr h₀ L s.heap m) → (closureFor scope env = pure cl) → (∀ y ∈ scope.names, y.2 ≠ .cell) → (scope.kind = .function) → (∀ y ∈ scope.names, y.2 = .local → scope.names.lookup y.1 = some .local) → (scope.names.lookup x = some .local) → (wpAny (model prog w) A (eval iter env) (LkSrc prog w A h₀ L m env elt x scope cl n0 (fun s₂ => LCg.FinE h₀ L m s₂ Q)) E s) → (∀ x, foldedSetIterable iter env x = pure x) → wpAny (model prog w) A (eval (.ListComp elt [⟨.Name x px, iter, [], 0⟩] scope pos) env) Q E s
noncomputable abbrev Dat : Type := Program × World × Around × (Value → Shared → Prop) × Shared × Heap × Addr × (Str → Option Value) × Env × PySem.Expr × PySem.Expr × Str × Pos × Scope × (List (Str × Addr)) × Pos × (Value → Shared → Prop) × Nat
noncomputable def d₀ : Dat := (default, wd, ⟨none, 0, none, none, 1⟩, (fun _ _ => True), ⟨{}, #[], {}, 1, {}⟩, {}, (0 : Nat), (fun _ => none), default, default, default, (Str.ofString ""), default, default, [], default, (fun _ _ => True), 0)
@[irreducible] noncomputable def z₀ : Dat := eps d₀ fun z => ¬ Pre z.1 z.2.1 z.2.2.1 z.2.2.2.1 z.2.2.2.2.1 z.2.2.2.2.2.1 z.2.2.2.2.2.2.1 z.2.2.2.2.2.2.2.1 z.2.2.2.2.2.2.2.2.1 z.2.2.2.2.2.2.2.2.2.1 z.2.2.2.2.2.2.2.2.2.2.1 z.2.2.2.2.2.2.2.2.2.2.2.1 z.2.2.2.2.2.2.2.2.2.2.2.2.1 z.2.2.2.2.2.2.2.2.2.2.2.2.2.1 z.2.2.2.2.2.2.2.2.2.2.2.2.2.2.1 z.2.2.2.2.2.2.2.2.2.2.2.2.2.2.2.1 z.2.2.2.2.2.2.2.2.2.2.2.2.2.2.2.2.1 z.2.2.2.2.2.2.2.2.2.2.2.2.2.2.2.2.2
@[irreducible] noncomputable def prog : Program := z₀.1
@[irreducible] noncomputable def w : World := z₀.2.1
@[irreducible] noncomputable def A : Around := z₀.2.2.1
@[irreducible] noncomputable def E : Value → Shared → Prop := z₀.2.2.2.1
@[irreducible] noncomputable def s : Shared := z₀.2.2.2.2.1
@[irreducible] noncomputable def h₀ : Heap := z₀.2.2.2.2.2.1
@[irreducible] noncomputable def L : Addr := z₀.2.2.2.2.2.2.1
@[irreducible] noncomputable def m : Str → Option Value := z₀.2.2.2.2.2.2.2.1
@[irreducible] noncomputable def env : Env := z₀.2.2.2.2.2.2.2.2.1
@[irreducible] noncomputable def elt : PySem.Expr := z₀.2.2.2.2.2.2.2.2.2.1
@[irreducible] noncomputable def iter : PySem.Expr := z₀.2.2.2.2.2.2.2.2.2.2.1
@[irreducible] noncomputable def x : Str := z₀.2.2.2.2.2.2.2.2.2.2.2.1
@[irreducible] noncomputable def px : Pos := z₀.2.2.2.2.2.2.2.2.2.2.2.2.1
@[irreducible] noncomputable def scope : Scope := z₀.2.2.2.2.2.2.2.2.2.2.2.2.2.1
@[irreducible] noncomputable def cl : List (Str × Addr) := z₀.2.2.2.2.2.2.2.2.2.2.2.2.2.2.1
@[irreducible] noncomputable def pos : Pos := z₀.2.2.2.2.2.2.2.2.2.2.2.2.2.2.2.1
@[irreducible] noncomputable def Q : Value → Shared → Prop := z₀.2.2.2.2.2.2.2.2.2.2.2.2.2.2.2.2.1
@[irreducible] noncomputable def n0 : Nat := z₀.2.2.2.2.2.2.2.2.2.2.2.2.2.2.2.2.2
theorem main : Pre prog w A E s h₀ L m env elt iter x px scope cl pos Q n0 := by
  intro hn0 _F₀ hclos hcell hkind hnames hx h hs
  rw [eval_ListComp]
  refine wpAny_comprehension_free (use := none) rfl hs hclos hkind hnames (wpAny_mono (wpAny_toks_of (n := n0) hn0 h) (fun xv s₁ h₁ => ?_) fun _ _ e => e.2)
  obtain ⟨htk, ax, o, its, news, J, rfl, hh, F, N, hm, ho, hsz, hJ, R⟩ := h₁
  have hlt : ax < s₁.heap.objs.size := Heap.lt_size (N _ hm).1
  have hsz' : its.toArray.size = its.length := List.size_toArray ..
  have tail : ∀ (s₂ : Shared) (D C : Addr) (h : Heap) (tk : Nat) (m' : Str → Option Value) (ys : List Value) (news' : List (Addr × Obj)), Fr h₀ L h m → News h₀ L h ((D, LCg.lst ys) :: news') → Off1 D news' → h.Ns C m' → h₀.get? C = none → h₀.get? D = none → C ≠ L → D ≠ L → C ≠ D → (∀ p ∈ news', p.1 ≠ C) → LCg.FinE h₀ L m s₂ Q ys news' →
      compPost (model prog w) A E none Q (.ref D) C (.ok .next) { s₂ with heap := h, toks := tk } := fun s₂ D C h tk m' ys news' F' N' o1 hn hC₀ hD₀ hCL hDL hCD offC fin =>
    ⟨m', hn, fun h'' hs'' => fin D h'' tk (F'.change hs'' hCL hC₀) (fun p hp => ⟨hs''.extBut _ _ (by
      rcases List.mem_cons.mp hp with rfl | hp
      · exact Ne.symm hCD
      · exact offC p hp) (N' p hp).1, (N' p hp).2⟩) o1⟩
  rcases ho with rfl | ⟨k, rfl⟩
  · have hT : s₁.heap.IsTuple ax its.toArray := ⟨_, (N _ hm).1, rfl, _, rfl⟩
    refine wpAny_pyIter_tuple hT ?_
    have up : ∀ b o, s₁.heap.get? b = some o → (s₁.heap.push { cls := .type "tuple_iterator", data := .fields #[.ref ax, .int 0 0] }).get? b = some o := fun b o e => Heap.get?_push_of_some _ e
    have W := Walks.tuple (prog := prog) (w := w) (A := A) hh s₁.heap.objs.size ax (Nat.ne_of_lt hlt) its.toArray
    obtain ⟨R1, R2⟩ := R _ ⟨_, rfl⟩
    refine lk_block (n0 := n0) (S := fun nw => (ax, tupO its) ∈ nw) (n := its.toArray.size) (P := fun i v => its[i]? = some v) J { sub := W.sub, frame := W.frame, done := W.done, self := W.self, item := fun i s Q E hi st hQ => W.item i s Q E hi st fun v h' tk hP => hQ v h' tk (by simpa using hP) } (by rw [hsz']; exact hsz) htk (fun i h st => by obtain ⟨o, e, _⟩ := st.1; exact ⟨o, e⟩)
      (fun i h h' o nw st e e' k N S => ⟨by obtain ⟨o', q, r⟩ := st.1; rw [e] at q; cases q; exact ⟨o, e', r⟩, ⟨_, (N _ S).1, rfl, _, rfl⟩⟩) hcell hkind hx ⟨⟨_, Heap.get?_push_size _ rfl, rfl, rfl⟩, hT.push _⟩ (fun b hb => ?_)
      (F.keeps up) (N.grown up) (Nat.ne_of_lt F.ns.lt) (next_is_new F) (fun p hp => Nat.ne_of_lt (Heap.lt_size (N p hp).1)) hm (by rw [hsz']; exact R1) hJ
      (fun D C h tk m' ys news' F' N' o1 hn hC₀ hD₀ hCL hDL hCD offC fin => tail _ D C h tk m' ys news' F' N' o1 hn hC₀ hD₀ hCL hDL hCD offC (R2 _ _ (by rw [hsz'] at fin; exact fin)))
    show b < (s₁.heap.push _).objs.size
    rw [Heap.size_push]
    rcases List.mem_cons.mp hb with rfl | hb
    · exact Nat.lt_succ_self _
    · rw [List.mem_singleton.mp hb]; exact Nat.lt_succ_of_lt hlt
  · have hT : s₁.heap.IsList ax its.toArray := ⟨_, (N _ hm).1, rfl, _, rfl⟩
    refine wpAny_pyIter_list hT ?_
    have up : ∀ b o, s₁.heap.get? b = some o → (s₁.heap.push { cls := .type "list_iterator", data := .fields #[.ref ax, .int 0 0] }).get? b = some o := fun b o e => Heap.get?_push_of_some _ e
    have W := Walks.list (prog := prog) (w := w) (A := A) hh s₁.heap.objs.size ax (Nat.ne_of_lt hlt) its.toArray
    obtain ⟨R1, R2⟩ := R _ ⟨_, rfl⟩
    refine lk_block (n0 := n0) (S := fun nw => (ax, LkSrc.lst' its k) ∈ nw) (n := its.toArray.size) (P := fun i v => its[i]? = some v) J { sub := W.sub, frame := W.frame, done := W.done, self := W.self, item := fun i s Q E hi st hQ => W.item i s Q E hi st fun v h' tk hP => hQ v h' tk (by simpa using hP) } (by rw [hsz']; exact hsz) htk (fun i h st => by obtain ⟨o, e, _⟩ := st.1; exact ⟨o, e⟩)
      (fun i h h' o nw st e e' k N S => ⟨by obtain ⟨o', q, r⟩ := st.1; rw [e] at q; cases q; exact ⟨o, e', r⟩, ⟨_, (N _ S).1, rfl, _, rfl⟩⟩) hcell hkind hx ⟨⟨_, Heap.get?_push_size _ rfl, rfl, rfl⟩, hT.push _⟩ (fun b hb => ?_)
      (F.keeps up) (N.grown up) (Nat.ne_of_lt F.ns.lt) (next_is_new F) (fun p hp => Nat.ne_of_lt (Heap.lt_size (N p hp).1)) hm (by rw [hsz']; exact R1) hJ
      (fun D C h tk m' ys news' F' N' o1 hn hC₀ hD₀ hCL hDL hCD offC fin => tail _ D C h tk m' ys news' F' N' o1 hn hC₀ hD₀ hCL hDL hCD offC (R2 _ _ (by rw [hsz'] at fin; exact fin)))
    show b < (s₁.heap.push _).objs.size
    rw [Heap.size_push]
    rcases List.mem_cons.mp hb with rfl | hb
    · exact Nat.lt_succ_self _
    · rw [List.mem_singleton.mp hb]; exact Nat.lt_succ_of_lt hlt
end Hlk_ListComp
section V
variable {prog : Program} {w : World} {A : Around} {E : Value → Shared → Prop} {s : Shared} {h₀ : Heap} {L : Addr} {m : Str → Option Value} {env : Env}
theorem lk_ListComp {elt iter : PySem.Expr} {x : Str} {px : Pos} {scope : Scope} {cl : List (Str × Addr)} {pos : Pos} {Q : Value → Shared → Prop} (n0 : Nat) (hn0 : @LE.le Nat _ n0 s.toks) (_F₀ : Fr h₀ L s.heap m)
    (hclos : closureFor scope env = pure cl) (hcell : ∀ y ∈ scope.names, y.2 ≠ .cell) (hkind : scope.kind = .function)
    (hnames : ∀ y ∈ scope.names, y.2 = .local → scope.names.lookup y.1 = some .local) (hx : scope.names.lookup x = some .local)
    (h : wpAny (model prog w) A (eval iter env) (LkSrc prog w A h₀ L m env elt x scope cl n0 (fun s₂ => LCg.FinE h₀ L m s₂ Q)) E s)
    (hs : ∀ x, foldedSetIterable iter env x = pure x := by intro _; rfl) :
    wpAny (model prog w) A (eval (.ListComp elt [⟨.Name x px, iter, [], 0⟩] scope pos) env) Q E s :=
  eps_allz (z := Hlk_ListComp.z₀) (P := fun z : Hlk_ListComp.Dat => Hlk_ListComp.Pre z.1 z.2.1 z.2.2.1 z.2.2.2.1 z.2.2.2.2.1 z.2.2.2.2.2.1 z.2.2.2.2.2.2.1 z.2.2.2.2.2.2.2.1 z.2.2.2.2.2.2.2.2.1 z.2.2.2.2.2.2.2.2.2.1 z.2.2.2.2.2.2.2.2.2.2.1 z.2.2.2.2.2.2.2.2.2.2.2.1 z.2.2.2.2.2.2.2.2.2.2.2.2.1 z.2.2.2.2.2.2.2.2.2.2.2.2.2.1 z.2.2.2.2.2.2.2.2.2.2.2.2.2.2.1 z.2.2.2.2.2.2.2.2.2.2.2.2.2.2.2.1 z.2.2.2.2.2.2.2.2.2.2.2.2.2.2.2.2.1 z.2.2.2.2.2.2.2.2.2.2.2.2.2.2.2.2.2) (by delta Hlk_ListComp.z₀; exact rfl) (by with_unfolding_all exact Hlk_ListComp.main) (prog, w, A, E, s, h₀, L, m, env, elt, iter, x, px, scope, cl, pos, Q, n0) hn0 _F₀ hclos hcell hkind hnames hx h hs
end V
namespace Hlk_Assign
noncomputable def Pre (prog : Program) (w : World) (A : Around) (E : Value → Shared → Prop) (s : Shared) (h₀ : Heap) (m : Str → Option Value) (env : Env) (elt : PySem.Expr) (iter : PySem.Expr) (x : Str) (y : Str) (px : Pos) (py : Pos) (scope : Scope) (cl : List (Str × Addr)) (pos : Pos) (spos : Pos) (Q : Flow → Shared → Prop) (n0 : Nat) : Prop :=
  ∀ (L : Addr), (@LE.le Nat _ n0 s.toks) → (Fr h₀ L s.heap m) → (env.locals = L) → (swapsWith (.ListComp elt [⟨.Name x px, iter, [], 0⟩] scope pos) (some (.Name y py)) spos.line env = pure true) → (closureFor scope env = pure cl) → (∀ z ∈ scope.names, z.2 ≠ .cell) → (scope.kind = .function) → (∀ z ∈ scope.names, z.2 = .local → scope.names.lookup z.1 = some .local) → (scope.names.lookup x = some .local) → (env.kindOf y = some .local) → ((env.scope.kind == .class || (env.scope.kind == .module && env.locals != env.globals)) = false) → (wpAny (model prog w) A (eval iter env) (LkSrc prog w A h₀ L m env elt x scope cl n0 (fun s₂ => LCg.FinA h₀ L m s₂ y Q)) E s) → (∀ x, foldedSetIterable iter env x = pure x) → wpAny (model prog w) A (exec (.Assign [.Name y py] (.ListComp elt [⟨.Name x px, iter, [], 0⟩] scope pos) spos) env) Q E s
noncomputable abbrev Dat : Type := Program × World × Around × (Value → Shared → Prop) × Shared × Heap × (Str → Option Value) × Env × PySem.Expr × PySem.Expr × Str × Str × Pos × Pos × Scope × (List (Str × Addr)) × Pos × Pos × (Flow → Shared → Prop) × Nat
noncomputable def d₀ : Dat := (default, wd, ⟨none, 0, none, none, 1⟩, (fun _ _ => True), ⟨{}, #[], {}, 1, {}⟩, {}, (fun _ => none), default, default, default, (Str.ofString ""), (Str.ofString ""), default, default, default, [], default, default, (fun _ _ => True), 0)
@[irreducible] noncomputable def z₀ : Dat := eps d₀ fun z => ¬ Pre z.1 z.2.1 z.2.2.1 z.2.2.2.1 z.2.2.2.2.1 z.2.2.2.2.2.1 z.2.2.2.2.2.2.1 z.2.2.2.2.2.2.2.1 z.2.2.2.2.2.2.2.2.1 z.2.2.2.2.2.2.2.2.2.1 z.2.2.2.2.2.2.2.2.2.2.1 z.2.2.2.2.2.2.2.2.2.2.2.1 z.2.2.2.2.2.2.2.2.2.2.2.2.1 z.2.2.2.2.2.2.2.2.2.2.2.2.2.1 z.2.2.2.2.2.2.2.2.2.2.2.2.2.2.1 z.2.2.2.2.2.2.2.2.2.2.2.2.2.2.2.1 z.2.2.2.2.2.2.2.2.2.2.2.2.2.2.2.2.1 z.2.2.2.2.2.2.2.2.2.2.2.2.2.2.2.2.2.1 z.2.2.2.2.2.2.2.2.2.2.2.2.2.2.2.2.2.2.1 z.2.2.2.2.2.2.2.2.2.2.2.2.2.2.2.2.2.2.2
@[irreducible] noncomputable def prog : Program := z₀.1
@[irreducible] noncomputable def w : World := z₀.2.1
@[irreducible] noncomputable def A : Around := z₀.2.2.1
@[irreducible] noncomputable def E : Value → Shared → Prop := z₀.2.2.2.1
@[irreducible] noncomputable def s : Shared := z₀.2.2.2.2.1
@[irreducible] noncomputable def h₀ : Heap := z₀.2.2.2.2.2.1
@[irreducible] noncomputable def m : Str → Option Value := z₀.2.2.2.2.2.2.1
@[irreducible] noncomputable def env : Env := z₀.2.2.2.2.2.2.2.1
@[irreducible] noncomputable def elt : PySem.Expr := z₀.2.2.2.2.2.2.2.2.1
@[irreducible] noncomputable def iter : PySem.Expr := z₀.2.2.2.2.2.2.2.2.2.1
@[irreducible] noncomputable def x : Str := z₀.2.2.2.2.2.2.2.2.2.2.1
@[irreducible] noncomputable def y : Str := z₀.2.2.2.2.2.2.2.2.2.2.2.1
@[irreducible] noncomputable def px : Pos := z₀.2.2.2.2.2.2.2.2.2.2.2.2.1
@[irreducible] noncomputable def py : Pos := z₀.2.2.2.2.2.2.2.2.2.2.2.2.2.1
@[irreducible] noncomputable def scope : Scope := z₀.2.2.2.2.2.2.2.2.2.2.2.2.2.2.1
@[irreducible] noncomputable def cl : List (Str × Addr) := z₀.2.2.2.2.2.2.2.2.2.2.2.2.2.2.2.1
@[irreducible] noncomputable def pos : Pos := z₀.2.2.2.2.2.2.2.2.2.2.2.2.2.2.2.2.1
@[irreducible] noncomputable def spos : Pos := z₀.2.2.2.2.2.2.2.2.2.2.2.2.2.2.2.2.2.1
@[irreducible] noncomputable def Q : Flow → Shared → Prop := z₀.2.2.2.2.2.2.2.2.2.2.2.2.2.2.2.2.2.2.1
@[irreducible] noncomputable def n0 : Nat := z₀.2.2.2.2.2.2.2.2.2.2.2.2.2.2.2.2.2.2.2
theorem main : Pre prog w A E s h₀ m env elt iter x y px py scope cl pos spos Q n0 := by
  intro L hn0 _F₀ hLe hsw hclos hcell hkind hnames hx hy hp h hs
  subst hLe
  rw [exec_Assign_Name_used _ _ _ _ hsw]
  refine wpAny_bind (wpAny_standAt (wpAny_bind ?_))
  show wpAny _ A (do let _ ← comprehension (.ListComp elt [⟨.Name x px, iter, [], 0⟩] scope pos) scope env _ (newList []) false (eval iter env) (some (assign (.Name y py) env))) _ _ s
  refine wpAny_bind (wpAny_mono (wpAny_comprehension_free (use := some (assign (.Name y py) env)) (Q := fun _ s' => Q .next s') rfl hs hclos hkind hnames
    (wpAny_mono (wpAny_toks_of (n := n0) hn0 h) (fun xv s₁ h₁ => ?_) fun _ _ e => e.2)) (fun _ s' hq => wpAny_pure (wpAny_pure hq)) fun _ _ e => e)
  obtain ⟨htk, ax, o, its, news, J, rfl, hh, F, N, hm, ho, hsz, hJ, R⟩ := h₁
  have hlt : ax < s₁.heap.objs.size := Heap.lt_size (N _ hm).1
  have hsz' : its.toArray.size = its.length := List.size_toArray ..
  have tail : ∀ (s₂ : Shared) (D C : Addr) (h : Heap) (tk : Nat) (m' : Str → Option Value) (ys : List Value) (news' : List (Addr × Obj)), Fr h₀ env.locals h m → News h₀ env.locals h ((D, LCg.lst ys) :: news') → Off1 D news' → h.Ns C m' → h₀.get? C = none → h₀.get? D = none → C ≠ env.locals → D ≠ env.locals → C ≠ D → (∀ p ∈ news', p.1 ≠ C) → LCg.FinA h₀ env.locals m s₂ y Q ys news' →
      compPost (model prog w) A E (some (assign (.Name y py) env)) (fun _ s' => Q .next s') (.ref D) C (.ok .next) { s₂ with heap := h, toks := tk } := by
    intro s₂ D C h tk m' ys news' F' N' o1 hn hC₀ hD₀ hCL hDL hCD offC fin
    show wpAny _ A (assign (.Name y py) env (.ref D)) _ _ _
    refine wpAny_assign_Name (wpAny_storeName_local hy F'.ns (fun h₂ hn₂ hs₂ => ?_) hp)
    have hL₀ : h₀.get? env.locals = none := Heap.get?_none_of_le F'.above
    have F₂ : Fr h₀ env.locals h₂ (fun z => if z = y then some (.ref D) else m z) := ⟨hn₂, fun b o e => hs₂.extBut b o (fun q => by rw [q, hL₀] at e; cases e) (F'.keep b o e), F'.above⟩
    refine ⟨m', hn.sameBut hs₂ hCL, fun h'' hs'' => fin D h'' _ (F₂.change hs'' hCL hC₀) (fun p hp => ?_) o1⟩
    have z : h₂.get? p.1 = some p.2 := hs₂.extBut _ _ (N' p hp).2.1 (N' p hp).1
    refine ⟨hs''.extBut _ _ ?_ z, (N' p hp).2⟩
    rcases List.mem_cons.mp hp with rfl | hp
    · exact Ne.symm hCD
    · exact offC p hp
  rcases ho with rfl | ⟨k, rfl⟩
  · have hT : s₁.heap.IsTuple ax its.toArray := ⟨_, (N _ hm).1, rfl, _, rfl⟩
    refine wpAny_pyIter_tuple hT ?_
    have up : ∀ b o, s₁.heap.get? b = some o → (s₁.heap.push { cls := .type "tuple_iterator", data := .fields #[.ref ax, .int 0 0] }).get? b = some o := fun b o e => Heap.get?_push_of_some _ e
    have W := Walks.tuple (prog := prog) (w := w) (A := A) hh s₁.heap.objs.size ax (Nat.ne_of_lt hlt) its.toArray
    obtain ⟨R1, R2⟩ := R _ ⟨_, rfl⟩
    refine lk_block (n0 := n0) (S := fun nw => (ax, tupO its) ∈ nw) (n := its.toArray.size) (P := fun i v => its[i]? = some v) J { sub := W.sub, frame := W.frame, done := W.done, self := W.self, item := fun i s Q E hi st hQ => W.item i s Q E hi st fun v h' tk hP => hQ v h' tk (by simpa using hP) } (by rw [hsz']; exact hsz) htk (fun i h st => by obtain ⟨o, e, _⟩ := st.1; exact ⟨o, e⟩)
      (fun i h h' o nw st e e' k N S => ⟨by obtain ⟨o', q, r⟩ := st.1; rw [e] at q; cases q; exact ⟨o, e', r⟩, ⟨_, (N _ S).1, rfl, _, rfl⟩⟩) hcell hkind hx ⟨⟨_, Heap.get?_push_size _ rfl, rfl, rfl⟩, hT.push _⟩ (fun b hb => ?_)
      (F.keeps up) (N.grown up) (Nat.ne_of_lt F.ns.lt) (next_is_new F) (fun p hp => Nat.ne_of_lt (Heap.lt_size (N p hp).1)) hm (by rw [hsz']; exact R1) hJ
      (fun D C h tk m' ys news' F' N' o1 hn hC₀ hD₀ hCL hDL hCD offC fin => tail _ D C h tk m' ys news' F' N' o1 hn hC₀ hD₀ hCL hDL hCD offC (R2 _ _ (by rw [hsz'] at fin; exact fin)))
    show b < (s₁.heap.push _).objs.size
    rw [Heap.size_push]
    rcases List.mem_cons.mp hb with rfl | hb
    · exact Nat.lt_succ_self _
    · rw [List.mem_singleton.mp hb]; exact Nat.lt_succ_of_lt hlt
  · have hT : s₁.heap.IsList ax its.toArray := ⟨_, (N _ hm).1, rfl, _, rfl⟩
    refine wpAny_pyIter_list hT ?_
    have up : ∀ b o, s₁.heap.get? b = some o → (s₁.heap.push { cls := .type "list_iterator", data := .fields #[.ref ax, .int 0 0] }).get? b = some o := fun b o e => Heap.get?_push_of_some _ e
    have W := Walks.list (prog := prog) (w := w) (A := A) hh s₁.heap.objs.size ax (Nat.ne_of_lt hlt) its.toArray
    obtain ⟨R1, R2⟩ := R _ ⟨_, rfl⟩
    refine lk_block (n0 := n0) (S := fun nw => (ax, LkSrc.lst' its k) ∈ nw) (n := its.toArray.size) (P := fun i v => its[i]? = some v) J { sub := W.sub, frame := W.frame, done := W.done, self := W.self, item := fun i s Q E hi st hQ => W.item i s Q E hi st fun v h' tk hP => hQ v h' tk (by simpa using hP) } (by rw [hsz']; exact hsz) htk (fun i h st => by obtain ⟨o, e, _⟩ := st.1; exact ⟨o, e⟩)
      (fun i h h' o nw st e e' k N S => ⟨by obtain ⟨o', q, r⟩ := st.1; rw [e] at q; cases q; exact ⟨o, e', r⟩, ⟨_, (N _ S).1, rfl, _, rfl⟩⟩) hcell hkind hx ⟨⟨_, Heap.get?_push_size _ rfl, rfl, rfl⟩, hT.push _⟩ (fun b hb => ?_)
      (F.keeps up) (N.grown up) (Nat.ne_of_lt F.ns.lt) (next_is_new F) (fun p hp => Nat.ne_of_lt (Heap.lt_size (N p hp).1)) hm (by rw [hsz']; exact R1) hJ
      (fun D C h tk m' ys news' F' N' o1 hn hC₀ hD₀ hCL hDL hCD offC fin => tail _ D C h tk m' ys news' F' N' o1 hn hC₀ hD₀ hCL hDL hCD offC (R2 _ _ (by rw [hsz'] at fin; exact fin)))
    show b < (s₁.heap.push _).objs.size
    rw [Heap.size_push]
    rcases List.mem_cons.mp hb with rfl | hb
    · exact Nat.lt_succ_self _
    · rw [List.mem_singleton.mp hb]; exact Nat.lt_succ_of_lt hlt
end Hlk_Assign
section V
variable {prog : Program} {w : World} {A : Around} {E : Value → Shared → Prop} {s : Shared} {h₀ : Heap} {L : Addr} {m : Str → Option Value} {env : Env}
theorem lk_Assign {elt iter : PySem.Expr} {x y : Str} {px py : Pos} {scope : Scope} {cl : List (Str × Addr)} {pos spos : Pos} {Q : Flow → Shared → Prop} (n0 : Nat) (hn0 : @LE.le Nat _ n0 s.toks) (_F₀ : Fr h₀ L s.heap m) (hLe : env.locals = L)
    (hsw : swapsWith (.ListComp elt [⟨.Name x px, iter, [], 0⟩] scope pos) (some (.Name y py)) spos.line env = pure true)
    (hclos : closureFor scope env = pure cl) (hcell : ∀ z ∈ scope.names, z.2 ≠ .cell) (hkind : scope.kind = .function)
    (hnames : ∀ z ∈ scope.names, z.2 = .local → scope.names.lookup z.1 = some .local) (hx : scope.names.lookup x = some .local)
    (hy : env.kindOf y = some .local) (hp : (env.scope.kind == .class || (env.scope.kind == .module && env.locals != env.globals)) = false)
    (h : wpAny (model prog w) A (eval iter env) (LkSrc prog w A h₀ L m env elt x scope cl n0 (fun s₂ => LCg.FinA h₀ L m s₂ y Q)) E s)
    (hs : ∀ x, foldedSetIterable iter env x = pure x := by intro _; rfl) :
    wpAny (model prog w) A (exec (.Assign [.Name y py] (.ListComp elt [⟨.Name x px, iter, [], 0⟩] scope pos) spos) env) Q E s :=
  eps_allz (z := Hlk_Assign.z₀) (P := fun z : Hlk_Assign.Dat => Hlk_Assign.Pre z.1 z.2.1 z.2.2.1 z.2.2.2.1 z.2.2.2.2.1 z.2.2.2.2.2.1 z.2.2.2.2.2.2.1 z.2.2.2.2.2.2.2.1 z.2.2.2.2.2.2.2.2.1 z.2.2.2.2.2.2.2.2.2.1 z.2.2.2.2.2.2.2.2.2.2.1 z.2.2.2.2.2.2.2.2.2.2.2.1 z.2.2.2.2.2.2.2.2.2.2.2.2.1 z.2.2.2.2.2.2.2.2.2.2.2.2.2.1 z.2.2.2.2.2.2.2.2.2.2.2.2.2.2.1 z.2.2.2.2.2.2.2.2.2.2.2.2.2.2.2.1 z.2.2.2.2.2.2.2.2.2.2.2.2.2.2.2.2.1 z.2.2.2.2.2.2.2.2.2.2.2.2.2.2.2.2.2.1 z.2.2.2.2.2.2.2.2.2.2.2.2.2.2.2.2.2.2.1 z.2.2.2.2.2.2.2.2.2.2.2.2.2.2.2.2.2.2.2) (by delta Hlk_Assign.z₀; exact rfl) (by with_unfolding_all exact Hlk_Assign.main) (prog, w, A, E, s, h₀, m, env, elt, iter, x, y, px, py, scope, cl, pos, spos, Q, n0) L hn0 _F₀ hLe hsw hclos hcell hkind hnames hx hy hp h hs
end V
end
end
section
section
variable {w : World} {A A₀ : Around} {s : Shared} {K : Frag} {L : Addr} {h₀ base : Heap} {m mg mb : Str → Option Value} {news : List (Addr × Obj)} {p : Program} {loose : List Str} {mean : ExcName → Option Value}
/-- entering a def with cells: the count of tokens does not fall -/
theorem code_tokC {env : Env} {outer : List Env} {R : Result → Shared → Prop} {name qual : Str} {params : Arguments} {body : List Stmt} {scope : Scope} {dV kV doc pm cdv ct oc : Value} {an od : Option Addr} {osl : Array (Option Value)} {f : Addr} {args : Args} {binds : List (Str × Value)}
    (B : Below A₀ base outer h₀) (F : Fr h₀ L s.heap m) (X₀ : K.In h₀) (N : News h₀ L s.heap news) (T : Top p loose mean mg mb h₀) (hA : A.frames = some (env :: outer)) (hf : env.frame = some L) (hke : env.scope.kind = .function)
    (ho : K.lookup f = some ⟨oc, od, .func (fnOf name qual params body scope dV kV doc pm an cdv ct), osl⟩) (hcd : codeIn K cdv qual = true) (hroom : A.depth < recursionLimit)
    (hbind : BindsTo s (fnOf name qual params body scope dV kV doc pm an cdv ct) args binds) (hkind : (binds.all fun y => scope.names.lookup y.1 == some .local || scope.names.lookup y.1 == some .cell) = true)
    (hnd : ((cellsFrom 0 scope.names []).map (·.1)).Nodup)
    (h : ∀ g L' h₁ tk cells, @LE.le Nat _ s.toks tk → Fr h₀ L g m → Fr g L' h₁ (bindL (envOfC qual scope L' f cdv).kindOf binds fun _ => none) → News g L' h₁ (cells ++ news) →
      CellsAre (bindC (envOfC qual scope L' f cdv).kindOf binds fun _ => none) (cellsFrom (L' + 1) scope.names []) cells → Below A base (env :: outer) g → K.In g → Top p loose mean mg mb g → (∀ p ∈ news, p.1 < L') →
      wpAny (model P w) (A.deeper (envOfC qual scope L' f cdv)) (execs body (envOfC qual scope L' f cdv))
        (fun fl s' => LeaveK h₀ L m g R (match fl with | .ret v => v | _ => .none) s')
        (fun e s' => wpAny (model P w) (A.deeper (envOfC qual scope L' f cdv)) (leaving (envOfC qual scope L' f cdv) e) (fun _ s'' => R (.error e) s'') (fun e' s'' => R (.error e') s'') s')
        { s with heap := h₁, toks := tk })
    (hco : scope.isCoroutine = false) (hgen : scope.isGenerator = false) (hk : scope.kind = .function) : codeAny (model P w) A (.call (.ref f) args) R s := by
  obtain ⟨FG, BG, st, lv⟩ := groundX (R := R) B F N hA hf hke
  have hfree : ∀ q ∈ news, (hideAll s.heap (news.map (·.1))).get? q.1 = none := fun q hq => hideAll_none _ (List.mem_map_of_mem hq)
  refine codeAny_call_function hroom ((X₀.keeps F.keep) _ _ ho) rfl hco hgen rfl (codeRec_of (X₀.keeps F.keep) hcd) (hbind _ _ _ _ ?_)
  refine wpAny_with_toks (n := s.toks) (Nat.le_refl _) (wpAny_newFunctionEnv_cells hk (kindsX hkind _) fun env' he s' x htk => ?_)
  subst he
  refine ⟨(T.nolimit.keeps F.keep).keeps x.toInCall.keep, codeAny_func ?_⟩
  have keep := x.toInCall.keep
  obtain ⟨h₁, tk, rfl, _⟩ := x.done
  obtain ⟨cells, NC, Y⟩ := Cl.news (h₀ := s.heap) (Nat.le_refl _) fun n c hm => ⟨x.cell n c (lookup_of_mem_nodup (cellsFrom_names scope.names 0 (s.heap.objs.size + 1) [] [] rfl ▸ hnd) hm), x.above n c hm⟩
  have F' := (⟨x.toInCall.ns, fun b o e => keep b o (of_hideAll _ e), Nat.le_of_eq (hideAll_size _ _)⟩ : Fr (hideAll s.heap (news.map (·.1))) s.heap.objs.size h₁ _)
  refine wpAny_mono (h _ _ h₁ tk cells htk FG F' (fun q hq => ?_) Y BG (X₀.keeps st) (T.keeps st) fun q hq => Heap.lt_size (N q hq).1) (fun fl s' hl => lv _ _ hl) fun _ _ y => y
  rcases List.mem_append.mp hq with hq | hq
  · obtain ⟨z1, z2, z3⟩ := NC q hq
    refine ⟨z1, z2, ?_⟩
    cases e : (hideAll s.heap (news.map (·.1))).get? q.1 with
    | none => rfl
    | some o => exact absurd (of_hideAll _ e) (by rw [z3]; exact fun q => by cases q)
  · exact ⟨keep _ _ (N q hq).1, Nat.ne_of_lt (Heap.lt_size (N q hq).1), hfree q hq⟩
end
end
section
theorem sg_plain {w : World} (c : Nat) (h : c < 128) (h1 : special c = false) (h2 : findBy Value.isInt (es114 w) (c : Int) = none) : SignOk w ⟨#[c]⟩ :=
  ⟨rfl, h, fun _ => h2, fun h => by rw [show (⟨#[c]⟩ : Str).cps.getD 0 0 = c from rfl, h1] at h; cases h⟩
theorem sg_esc {w : World} (c : Nat) (h : c < 128) (h1 : special c = true) (h2 : (findBy Value.isInt (es114 w) (c : Int)).map strOf = some (Str.ofString "\\" ++ ⟨#[c]⟩)) (h3 : (findBy Value.isInt (es114 w) (c : Int)).map isStr' = some true) : SignOk w ⟨#[c]⟩ :=
  ⟨rfl, h, (fun h => by rw [show (⟨#[c]⟩ : Str).cps.getD 0 0 = c from rfl, h1] at h; cases h), fun _ => ⟨h2, h3⟩⟩
theorem sg46 (w : World) : SignOk w ⟨#[46]⟩ := sg_esc 46 (by decide) (by decide +kernel) (by kernel_rfl) (by kernel_rfl)
theorem sg47 (w : World) : SignOk w ⟨#[47]⟩ := sg_plain 47 (by decide) (by decide +kernel) (by kernel_rfl)
theorem sg93 (w : World) : SignOk w ⟨#[93]⟩ := sg_esc 93 (by decide) (by decide +kernel) (by kernel_rfl) (by kernel_rfl)
theorem sg97 (w : World) : SignOk w ⟨#[97]⟩ := sg_plain 97 (by decide) (by decide +kernel) (by kernel_rfl)
theorem sg98 (w : World) : SignOk w ⟨#[98]⟩ := sg_plain 98 (by decide) (by decide +kernel) (by kernel_rfl)
theorem sg99 (w : World) : SignOk w ⟨#[99]⟩ := sg_plain 99 (by decide) (by decide +kernel) (by kernel_rfl)
theorem sg105 (w : World) : SignOk w ⟨#[105]⟩ := sg_plain 105 (by decide) (by decide +kernel) (by kernel_rfl)
theorem sg108 (w : World) : SignOk w ⟨#[108]⟩ := sg_plain 108 (by decide) (by decide +kernel) (by kernel_rfl)
theorem sg109 (w : World) : SignOk w ⟨#[109]⟩ := sg_plain 109 (by decide) (by decide +kernel) (by kernel_rfl)
theorem sg112 (w : World) : SignOk w ⟨#[112]⟩ := sg_plain 112 (by decide) (by decide +kernel) (by kernel_rfl)
theorem sg114 (w : World) : SignOk w ⟨#[114]⟩ := sg_plain 114 (by decide) (by decide +kernel) (by kernel_rfl)
theorem sg115 (w : World) : SignOk w ⟨#[115]⟩ := sg_plain 115 (by decide) (by decide +kernel) (by kernel_rfl)
theorem sg116 (w : World) : SignOk w ⟨#[116]⟩ := sg_plain 116 (by decide) (by decide +kernel) (by kernel_rfl)
theorem sg117 (w : World) : SignOk w ⟨#[117]⟩ := sg_plain 117 (by decide) (by decide +kernel) (by kernel_rfl)
theorem sg120 (w : World) : SignOk w ⟨#[120]⟩ := sg_plain 120 (by decide) (by decide +kernel) (by kernel_rfl)
theorem rest_cmp (w : World) : RestT w (Str.ofString "cmp") 0 ([Str.ofString "c", Str.ofString "m", Str.ofString "p"] ++ if false = true then [Str.ofString "many"] else []) := by
  have e : ([Str.ofString "c", Str.ofString "m", Str.ofString "p"] ++ if false = true then [Str.ofString "many"] else []) = [escF (Txt.item (Str.ofString "cmp") ((0 : Nat) : Int)), escF (Txt.item (Str.ofString "cmp") ((1 : Nat) : Int)), escF (Txt.item (Str.ofString "cmp") ((2 : Nat) : Int))] := by decide +kernel
  rw [e]
  exact .sign 0 _ (by decide +kernel) (by decide +kernel) (by decide +kernel) (by decide +kernel) ((by decide +kernel : Txt.item (Str.ofString "cmp") ((0 : Nat) : Int) = ⟨#[99]⟩) ▸ sg99 w) (by decide +kernel) (.sign 1 _ (by decide +kernel) (by decide +kernel) (by decide +kernel) (by decide +kernel) ((by decide +kernel : Txt.item (Str.ofString "cmp") ((1 : Nat) : Int) = ⟨#[109]⟩) ▸ sg109 w) (by decide +kernel) (.sign 2 _ (by decide +kernel) (by decide +kernel) (by decide +kernel) (by decide +kernel) ((by decide +kernel : Txt.item (Str.ofString "cmp") ((2 : Nat) : Int) = ⟨#[112]⟩) ▸ sg112 w) (by decide +kernel) (.done)))
theorem rest_cmpS (w : World) : RestT w (Str.ofString "cmp.*") 0 ([Str.ofString "c", Str.ofString "m", Str.ofString "p", Str.ofString "\\."] ++ if true = true then [Str.ofString "many"] else []) := by
  have e : ([Str.ofString "c", Str.ofString "m", Str.ofString "p", Str.ofString "\\."] ++ if true = true then [Str.ofString "many"] else []) = [escF (Txt.item (Str.ofString "cmp.*") ((0 : Nat) : Int)), escF (Txt.item (Str.ofString "cmp.*") ((1 : Nat) : Int)), escF (Txt.item (Str.ofString "cmp.*") ((2 : Nat) : Int)), escF (Txt.item (Str.ofString "cmp.*") ((3 : Nat) : Int)), Str.ofString "many"] := by decide +kernel
  rw [e]
  exact .sign 0 _ (by decide +kernel) (by decide +kernel) (by decide +kernel) (by decide +kernel) ((by decide +kernel : Txt.item (Str.ofString "cmp.*") ((0 : Nat) : Int) = ⟨#[99]⟩) ▸ sg99 w) (by decide +kernel) (.sign 1 _ (by decide +kernel) (by decide +kernel) (by decide +kernel) (by decide +kernel) ((by decide +kernel : Txt.item (Str.ofString "cmp.*") ((1 : Nat) : Int) = ⟨#[109]⟩) ▸ sg109 w) (by decide +kernel) (.sign 2 _ (by decide +kernel) (by decide +kernel) (by decide +kernel) (by decide +kernel) ((by decide +kernel : Txt.item (Str.ofString "cmp.*") ((2 : Nat) : Int) = ⟨#[112]⟩) ▸ sg112 w) (by decide +kernel) (.sign 3 _ (by decide +kernel) (by decide +kernel) (by decide +kernel) (by decide +kernel) ((by decide +kernel : Txt.item (Str.ofString "cmp.*") ((3 : Nat) : Int) = ⟨#[46]⟩) ▸ sg46 w) (by decide +kernel) (.star 4 rfl (by decide +kernel)))))
theorem rest_ab (w : World) : RestT w (Str.ofString "a[[]b]") 0 ([Str.ofString "a", Str.ofString "[\\[]", Str.ofString "b", Str.ofString "\\]"] ++ if false = true then [Str.ofString "many"] else []) := by
  have e : ([Str.ofString "a", Str.ofString "[\\[]", Str.ofString "b", Str.ofString "\\]"] ++ if false = true then [Str.ofString "many"] else []) = [escF (Txt.item (Str.ofString "a[[]b]") ((0 : Nat) : Int)), Str.ofString "[\\[]", escF (Txt.item (Str.ofString "a[[]b]") ((4 : Nat) : Int)), escF (Txt.item (Str.ofString "a[[]b]") ((5 : Nat) : Int))] := by decide +kernel
  rw [e]
  exact .sign 0 _ (by decide +kernel) (by decide +kernel) (by decide +kernel) (by decide +kernel) ((by decide +kernel : Txt.item (Str.ofString "a[[]b]") ((0 : Nat) : Int) = ⟨#[97]⟩) ▸ sg97 w) (by decide +kernel) (.cls2 1 _ _ (by decide +kernel) (by decide +kernel) (by decide +kernel) (by decide +kernel) (by decide +kernel) (by decide +kernel) (by decide +kernel) rfl (by decide +kernel) (.sign 4 _ (by decide +kernel) (by decide +kernel) (by decide +kernel) (by decide +kernel) ((by decide +kernel : Txt.item (Str.ofString "a[[]b]") ((4 : Nat) : Int) = ⟨#[98]⟩) ▸ sg98 w) (by decide +kernel) (.sign 5 _ (by decide +kernel) (by decide +kernel) (by decide +kernel) (by decide +kernel) ((by decide +kernel : Txt.item (Str.ofString "a[[]b]") ((5 : Nat) : Int) = ⟨#[93]⟩) ▸ sg93 w) (by decide +kernel) (.done))))
theorem rest_abS (w : World) : RestT w (Str.ofString "a[[]b].*") 0 ([Str.ofString "a", Str.ofString "[\\[]", Str.ofString "b", Str.ofString "\\]", Str.ofString "\\."] ++ if true = true then [Str.ofString "many"] else []) := by
  have e : ([Str.ofString "a", Str.ofString "[\\[]", Str.ofString "b", Str.ofString "\\]", Str.ofString "\\."] ++ if true = true then [Str.ofString "many"] else []) = [escF (Txt.item (Str.ofString "a[[]b].*") ((0 : Nat) : Int)), Str.ofString "[\\[]", escF (Txt.item (Str.ofString "a[[]b].*") ((4 : Nat) : Int)), escF (Txt.item (Str.ofString "a[[]b].*") ((5 : Nat) : Int)), escF (Txt.item (Str.ofString "a[[]b].*") ((6 : Nat) : Int)), Str.ofString "many"] := by decide +kernel
  rw [e]
  exact .sign 0 _ (by decide +kernel) (by decide +kernel) (by decide +kernel) (by decide +kernel) ((by decide +kernel : Txt.item (Str.ofString "a[[]b].*") ((0 : Nat) : Int) = ⟨#[97]⟩) ▸ sg97 w) (by decide +kernel) (.cls2 1 _ _ (by decide +kernel) (by decide +kernel) (by decide +kernel) (by decide +kernel) (by decide +kernel) (by decide +kernel) (by decide +kernel) rfl (by decide +kernel) (.sign 4 _ (by decide +kernel) (by decide +kernel) (by decide +kernel) (by decide +kernel) ((by decide +kernel : Txt.item (Str.ofString "a[[]b].*") ((4 : Nat) : Int) = ⟨#[98]⟩) ▸ sg98 w) (by decide +kernel) (.sign 5 _ (by decide +kernel) (by decide +kernel) (by decide +kernel) (by decide +kernel) ((by decide +kernel : Txt.item (Str.ofString "a[[]b].*") ((5 : Nat) : Int) = ⟨#[93]⟩) ▸ sg93 w) (by decide +kernel) (.sign 6 _ (by decide +kernel) (by decide +kernel) (by decide +kernel) (by decide +kernel) ((by decide +kernel : Txt.item (Str.ofString "a[[]b].*") ((6 : Nat) : Int) = ⟨#[46]⟩) ▸ sg46 w) (by decide +kernel) (.star 7 rfl (by decide +kernel))))))
theorem rest_x (w : World) : RestT w (Str.ofString "x[*]") 0 ([Str.ofString "x", Str.ofString "[*]"] ++ if false = true then [Str.ofString "many"] else []) := by
  have e : ([Str.ofString "x", Str.ofString "[*]"] ++ if false = true then [Str.ofString "many"] else []) = [escF (Txt.item (Str.ofString "x[*]") ((0 : Nat) : Int)), Str.ofString "[*]"] := by decide +kernel
  rw [e]
  exact .sign 0 _ (by decide +kernel) (by decide +kernel) (by decide +kernel) (by decide +kernel) ((by decide +kernel : Txt.item (Str.ofString "x[*]") ((0 : Nat) : Int) = ⟨#[120]⟩) ▸ sg120 w) (by decide +kernel) (.cls1 1 _ _ (by decide +kernel) (by decide +kernel) (by decide +kernel) (by decide +kernel) (by decide +kernel) (by decide +kernel) (by decide +kernel) rfl (by decide +kernel) (.done))
theorem rest_xS (w : World) : RestT w (Str.ofString "x[*].*") 0 ([Str.ofString "x", Str.ofString "[*]", Str.ofString "\\."] ++ if true = true then [Str.ofString "many"] else []) := by
  have e : ([Str.ofString "x", Str.ofString "[*]", Str.ofString "\\."] ++ if true = true then [Str.ofString "many"] else []) = [escF (Txt.item (Str.ofString "x[*].*") ((0 : Nat) : Int)), Str.ofString "[*]", escF (Txt.item (Str.ofString "x[*].*") ((4 : Nat) : Int)), Str.ofString "many"] := by decide +kernel
  rw [e]
  exact .sign 0 _ (by decide +kernel) (by decide +kernel) (by decide +kernel) (by decide +kernel) ((by decide +kernel : Txt.item (Str.ofString "x[*].*") ((0 : Nat) : Int) = ⟨#[120]⟩) ▸ sg120 w) (by decide +kernel) (.cls1 1 _ _ (by decide +kernel) (by decide +kernel) (by decide +kernel) (by decide +kernel) (by decide +kernel) (by decide +kernel) (by decide +kernel) rfl (by decide +kernel) (.sign 4 _ (by decide +kernel) (by decide +kernel) (by decide +kernel) (by decide +kernel) ((by decide +kernel : Txt.item (Str.ofString "x[*].*") ((4 : Nat) : Int) = ⟨#[46]⟩) ▸ sg46 w) (by decide +kernel) (.star 5 rfl (by decide +kernel))))
theorem rest_usr (w : World) : RestT w (Str.ofString "/usr/lib/*") 0 ([Str.ofString "/", Str.ofString "u", Str.ofString "s", Str.ofString "r", Str.ofString "/", Str.ofString "l", Str.ofString "i", Str.ofString "b", Str.ofString "/"] ++ if true = true then [Str.ofString "many"] else []) := by
  have e : ([Str.ofString "/", Str.ofString "u", Str.ofString "s", Str.ofString "r", Str.ofString "/", Str.ofString "l", Str.ofString "i", Str.ofString "b", Str.ofString "/"] ++ if true = true then [Str.ofString "many"] else []) = [escF (Txt.item (Str.ofString "/usr/lib/*") ((0 : Nat) : Int)), escF (Txt.item (Str.ofString "/usr/lib/*") ((1 : Nat) : Int)), escF (Txt.item (Str.ofString "/usr/lib/*") ((2 : Nat) : Int)), escF (Txt.item (Str.ofString "/usr/lib/*") ((3 : Nat) : Int)), escF (Txt.item (Str.ofString "/usr/lib/*") ((4 : Nat) : Int)), escF (Txt.item (Str.ofString "/usr/lib/*") ((5 : Nat) : Int)), escF (Txt.item (Str.ofString "/usr/lib/*") ((6 : Nat) : Int)), escF (Txt.item (Str.ofString "/usr/lib/*") ((7 : Nat) : Int)), escF (Txt.item (Str.ofString "/usr/lib/*") ((8 : Nat) : Int)), Str.ofString "many"] := by decide +kernel
  rw [e]
  exact .sign 0 _ (by decide +kernel) (by decide +kernel) (by decide +kernel) (by decide +kernel) ((by decide +kernel : Txt.item (Str.ofString "/usr/lib/*") ((0 : Nat) : Int) = ⟨#[47]⟩) ▸ sg47 w) (by decide +kernel) (.sign 1 _ (by decide +kernel) (by decide +kernel) (by decide +kernel) (by decide +kernel) ((by decide +kernel : Txt.item (Str.ofString "/usr/lib/*") ((1 : Nat) : Int) = ⟨#[117]⟩) ▸ sg117 w) (by decide +kernel) (.sign 2 _ (by decide +kernel) (by decide +kernel) (by decide +kernel) (by decide +kernel) ((by decide +kernel : Txt.item (Str.ofString "/usr/lib/*") ((2 : Nat) : Int) = ⟨#[115]⟩) ▸ sg115 w) (by decide +kernel) (.sign 3 _ (by decide +kernel) (by decide +kernel) (by decide +kernel) (by decide +kernel) ((by decide +kernel : Txt.item (Str.ofString "/usr/lib/*") ((3 : Nat) : Int) = ⟨#[114]⟩) ▸ sg114 w) (by decide +kernel) (.sign 4 _ (by decide +kernel) (by decide +kernel) (by decide +kernel) (by decide +kernel) ((by decide +kernel : Txt.item (Str.ofString "/usr/lib/*") ((4 : Nat) : Int) = ⟨#[47]⟩) ▸ sg47 w) (by decide +kernel) (.sign 5 _ (by decide +kernel) (by decide +kernel) (by decide +kernel) (by decide +kernel) ((by decide +kernel : Txt.item (Str.ofString "/usr/lib/*") ((5 : Nat) : Int) = ⟨#[108]⟩) ▸ sg108 w) (by decide +kernel) (.sign 6 _ (by decide +kernel) (by decide +kernel) (by decide +kernel) (by decide +kernel) ((by decide +kernel : Txt.item (Str.ofString "/usr/lib/*") ((6 : Nat) : Int) = ⟨#[105]⟩) ▸ sg105 w) (by decide +kernel) (.sign 7 _ (by decide +kernel) (by decide +kernel) (by decide +kernel) (by decide +kernel) ((by decide +kernel : Txt.item (Str.ofString "/usr/lib/*") ((7 : Nat) : Int) = ⟨#[98]⟩) ▸ sg98 w) (by decide +kernel) (.sign 8 _ (by decide +kernel) (by decide +kernel) (by decide +kernel) (by decide +kernel) ((by decide +kernel : Txt.item (Str.ofString "/usr/lib/*") ((8 : Nat) : Int) = ⟨#[47]⟩) ▸ sg47 w) (by decide +kernel) (.star 9 rfl (by decide +kernel))))))))))
theorem rest_tmp (w : World) : RestT w (Str.ofString "/t[[]mp]/*") 0 ([Str.ofString "/", Str.ofString "t", Str.ofString "[\\[]", Str.ofString "m", Str.ofString "p", Str.ofString "\\]", Str.ofString "/"] ++ if true = true then [Str.ofString "many"] else []) := by
  have e : ([Str.ofString "/", Str.ofString "t", Str.ofString "[\\[]", Str.ofString "m", Str.ofString "p", Str.ofString "\\]", Str.ofString "/"] ++ if true = true then [Str.ofString "many"] else []) = [escF (Txt.item (Str.ofString "/t[[]mp]/*") ((0 : Nat) : Int)), escF (Txt.item (Str.ofString "/t[[]mp]/*") ((1 : Nat) : Int)), Str.ofString "[\\[]", escF (Txt.item (Str.ofString "/t[[]mp]/*") ((5 : Nat) : Int)), escF (Txt.item (Str.ofString "/t[[]mp]/*") ((6 : Nat) : Int)), escF (Txt.item (Str.ofString "/t[[]mp]/*") ((7 : Nat) : Int)), escF (Txt.item (Str.ofString "/t[[]mp]/*") ((8 : Nat) : Int)), Str.ofString "many"] := by decide +kernel
  rw [e]
  exact .sign 0 _ (by decide +kernel) (by decide +kernel) (by decide +kernel) (by decide +kernel) ((by decide +kernel : Txt.item (Str.ofString "/t[[]mp]/*") ((0 : Nat) : Int) = ⟨#[47]⟩) ▸ sg47 w) (by decide +kernel) (.sign 1 _ (by decide +kernel) (by decide +kernel) (by decide +kernel) (by decide +kernel) ((by decide +kernel : Txt.item (Str.ofString "/t[[]mp]/*") ((1 : Nat) : Int) = ⟨#[116]⟩) ▸ sg116 w) (by decide +kernel) (.cls2 2 _ _ (by decide +kernel) (by decide +kernel) (by decide +kernel) (by decide +kernel) (by decide +kernel) (by decide +kernel) (by decide +kernel) rfl (by decide +kernel) (.sign 5 _ (by decide +kernel) (by decide +kernel) (by decide +kernel) (by decide +kernel) ((by decide +kernel : Txt.item (Str.ofString "/t[[]mp]/*") ((5 : Nat) : Int) = ⟨#[109]⟩) ▸ sg109 w) (by decide +kernel) (.sign 6 _ (by decide +kernel) (by decide +kernel) (by decide +kernel) (by decide +kernel) ((by decide +kernel : Txt.item (Str.ofString "/t[[]mp]/*") ((6 : Nat) : Int) = ⟨#[112]⟩) ▸ sg112 w) (by decide +kernel) (.sign 7 _ (by decide +kernel) (by decide +kernel) (by decide +kernel) (by decide +kernel) ((by decide +kernel : Txt.item (Str.ofString "/t[[]mp]/*") ((7 : Nat) : Int) = ⟨#[93]⟩) ▸ sg93 w) (by decide +kernel) (.sign 8 _ (by decide +kernel) (by decide +kernel) (by decide +kernel) (by decide +kernel) ((by decide +kernel : Txt.item (Str.ofString "/t[[]mp]/*") ((8 : Nat) : Int) = ⟨#[47]⟩) ▸ sg47 w) (by decide +kernel) (.star 9 rfl (by decide +kernel))))))))
noncomputable def partsF (p : Str) : List Str × Bool :=
  if p = Str.ofString "cmp" then ([Str.ofString "c", Str.ofString "m", Str.ofString "p"], false) else
  if p = Str.ofString "cmp.*" then ([Str.ofString "c", Str.ofString "m", Str.ofString "p", Str.ofString "\\."], true) else
  if p = Str.ofString "a[[]b]" then ([Str.ofString "a", Str.ofString "[\\[]", Str.ofString "b", Str.ofString "\\]"], false) else
  if p = Str.ofString "a[[]b].*" then ([Str.ofString "a", Str.ofString "[\\[]", Str.ofString "b", Str.ofString "\\]", Str.ofString "\\."], true) else
  if p = Str.ofString "x[*]" then ([Str.ofString "x", Str.ofString "[*]"], false) else
  if p = Str.ofString "x[*].*" then ([Str.ofString "x", Str.ofString "[*]", Str.ofString "\\."], true) else
  if p = Str.ofString "/usr/lib/*" then ([Str.ofString "/", Str.ofString "u", Str.ofString "s", Str.ofString "r", Str.ofString "/", Str.ofString "l", Str.ofString "i", Str.ofString "b", Str.ofString "/"], true) else
  if p = Str.ofString "/t[[]mp]/*" then ([Str.ofString "/", Str.ofString "t", Str.ofString "[\\[]", Str.ofString "m", Str.ofString "p", Str.ofString "\\]", Str.ofString "/"], true) else
  ([], false)
/-- what _law_escaped says of a module's name -/
noncomputable def escM (y : Str) : Str := if y = Str.ofString "a[b]" then Str.ofString "a[[]b]" else if y = Str.ofString "x*" then Str.ofString "x[*]" else y
noncomputable def rowF (ms : List Str) : List Str := ms.flatMap fun y => [escM y ++ Str.ofString "", escM y ++ Str.ofString ".*"]
noncomputable def foldP (y : Str) : Str := if y = Str.ofString "/usr/./lib/" then Str.ofString "/usr/lib/*" else Str.ofString "/t[[]mp]/*"
noncomputable def Pats : List Str := [Str.ofString "cmp", Str.ofString "cmp.*", Str.ofString "a[[]b]", Str.ofString "a[[]b].*", Str.ofString "x[*]", Str.ofString "x[*].*", Str.ofString "/usr/lib/*", Str.ofString "/t[[]mp]/*"]
theorem rest_all (w : World) : ∀ p ∈ Pats, RestT w p 0 ((partsF p).1 ++ if (partsF p).2 = true then [Str.ofString "many"] else []) := by
  intro p hp
  simp only [Pats, List.mem_cons, List.not_mem_nil, or_false] at hp
  rcases hp with rfl | rfl | rfl | rfl | rfl | rfl | rfl | rfl
  · rw [show partsF (Str.ofString "cmp") = ([Str.ofString "c", Str.ofString "m", Str.ofString "p"], false) by decide +kernel]; exact rest_cmp w
  · rw [show partsF (Str.ofString "cmp.*") = ([Str.ofString "c", Str.ofString "m", Str.ofString "p", Str.ofString "\\."], true) by decide +kernel]; exact rest_cmpS w
  · rw [show partsF (Str.ofString "a[[]b]") = ([Str.ofString "a", Str.ofString "[\\[]", Str.ofString "b", Str.ofString "\\]"], false) by decide +kernel]; exact rest_ab w
  · rw [show partsF (Str.ofString "a[[]b].*") = ([Str.ofString "a", Str.ofString "[\\[]", Str.ofString "b", Str.ofString "\\]", Str.ofString "\\."], true) by decide +kernel]; exact rest_abS w
  · rw [show partsF (Str.ofString "x[*]") = ([Str.ofString "x", Str.ofString "[*]"], false) by decide +kernel]; exact rest_x w
  · rw [show partsF (Str.ofString "x[*].*") = ([Str.ofString "x", Str.ofString "[*]", Str.ofString "\\."], true) by decide +kernel]; exact rest_xS w
  · rw [show partsF (Str.ofString "/usr/lib/*") = ([Str.ofString "/", Str.ofString "u", Str.ofString "s", Str.ofString "r", Str.ofString "/", Str.ofString "l", Str.ofString "i", Str.ofString "b", Str.ofString "/"], true) by decide +kernel]; exact rest_usr w
  · rw [show partsF (Str.ofString "/t[[]mp]/*") = ([Str.ofString "/", Str.ofString "t", Str.ofString "[\\[]", Str.ofString "m", Str.ofString "p", Str.ofString "\\]", Str.ofString "/"], true) by decide +kernel]; exact rest_tmp w
theorem parts_small : ∀ p ∈ Pats, ∀ x ∈ (partsF p).1, Small x ∧ (x == Str.ofString "many") = false ∧ 1 ≤ x.length := by decide +kernel
theorem pats_small : ∀ p ∈ Pats, Small p := by decide +kernel
end
section
example : True := by
  k_with_none
  w_top off
  (k_with "ite" => (k_closed; (first | (refine ite_pos (by with_reducible assumption) ?_) | (refine ite_neg (by with_reducible assumption) ?_) | (refine ite_isFalse (by with_reducible assumption) ?_) | k_dflt (refine ite_pos (by decide) ?_) | k_dflt (refine ite_neg (by decide) ?_) | (refine ite_pos (by k_dec) ?_) | (refine ite_neg (by k_dec) ?_))))
  (k_with "k_room" => (first | exact room_of (by assumption) 0 rfl | exact room_of (by assumption) 1 rfl | exact room_of (by assumption) 2 rfl | exact room_of (by assumption) 3 rfl | exact room_of (by assumption) 4 rfl | exact room_of (by assumption) 5 rfl | exact room_of (by assumption) 6 rfl))
  (k_with "my enter" => ((first
    | (refine' code_def ?k1 ?k2 ?k3 ?k4 ?k5 ?kA ?kF ?kK ?k6 ?k7 ?k8 ?k9 ?kB ?_ ?c2 ?c3 ?c4 ?c5; (case kA => exact rfl); (case kF => exact rfl); (case kK => first | exact rfl | assumption); (case k1 => k_asm); (case k2 => k_asm); (case k3 => k_asm); (case k4 => k_asm); (case k5 => k_asm); (case k6 => k_is); (case k7 => k_is); (case k8 => k_room); (case k9 => first | exact BindsTo.of_eq rfl | exact binds_K (by k_in) rfl (by k_is) rfl rfl rfl | fail "k_enter: no rule for these arguments"); (case c5 => decide); (case kB => exact locs rfl); (case c2 => exact rfl); (case c3 => exact rfl); (case c4 => exact rfl); k_whole; intro g' L' h' FG' F' N' B' X' T'; (try dsimp only); (try k_lift B'); (try k_fold))
    | (refine' code_defC ?k1 ?k2 ?k3 ?k4 ?k5 ?kA ?kF ?kK ?k6 ?k7 ?k8 ?k9 ?kB ?kD ?_ ?c2 ?c3 ?c4; (case kA => exact rfl); (case kF => exact rfl); (case kK => first | exact rfl | assumption); (case k1 => k_asm); (case k2 => k_asm); (case k3 => k_asm); (case k4 => k_asm); (case k5 => k_asm); (case k6 => k_is); (case k7 => k_is); (case k8 => k_room); (case k9 => first | exact BindsTo.of_eq rfl | exact binds_K (by k_in) rfl (by k_is) rfl rfl rfl | fail "k_enter: no rule for these arguments"); (case kB => exact rfl); (case kD => decide +kernel); (case c2 => exact rfl); (case c3 => exact rfl); (case c4 => exact rfl); k_whole; intro g' L' h' tk' cells' FG' F' N' Y' B' X' T' l1; (try k_lt l1); k_cells Y'; (try simp only [List.cons_append, List.nil_append] at N'); (try dsimp only); (try k_lift B'); (try k_fold)))))
  (k_with "call builtin:len" => (((with_reducible show wpAny _ _ (call (Value.builtin _) [Value.str _ _]) _ _ _); refine len_str (by omega) ?_)))
  (k_with "SearchPost" => (((with_reducible show SearchPost _ _ _ _ _ _ _ _ _ (Flow.ret _) _); dsimp only [SearchPost])))
  (k_with "my sub" => (first | exact fun _ h => h | exact fun _ h => List.mem_cons_of_mem _ h | exact fun _ h => List.mem_cons_of_mem _ (List.mem_cons_of_mem _ h) | exact fun _ h => List.mem_cons_of_mem _ (List.mem_cons_of_mem _ (List.mem_cons_of_mem _ h))))
  (k_with "k_all" => (first | assumption | exact off_of (by assumption) (by omega)))
  (k_with "my le" => (first | exact le_of 0 rfl (by assumption) | exact le_of 1 rfl (by assumption) | exact le_of 2 rfl (by assumption) | exact le_of 3 rfl (by assumption) | exact le_of 6 rfl (by assumption) | exact le_of 4 rfl (by assumption) | exact le_of 5 rfl (by assumption)))
  (k_with "exec Assign cons ListComp" => ((k_here; (with_reducible show wpAny _ _ (exec (Stmt.Assign _ (PySem.Expr.ListComp _ [_, _] _ _) _) _) _ _ _); (rename Fr _ _ _ _ => lF'); k_dflt (refine wpAny_with_toks (n := tkc + 1) (by first | assumption | omega | (dsimp only; omega)) (tw_Assign lF' (by rfl) (by with_unfolding_all rfl) (by rfl) (by decide) (by rfl) (by decide) (by rfl) (by rfl) (by first | decide | decide +kernel) (by rfl) (by rfl) ?_ (by intro _; with_unfolding_all rfl) (by intro _ _; with_unfolding_all rfl))))))
  (k_with "exec Assign cons ListComp" => ((k_here; (with_reducible show wpAny _ _ (exec (Stmt.Assign _ (PySem.Expr.ListComp _ [_] _ _) _) _) _ _ _); (rename Fr _ _ _ _ => lF'); k_dflt (refine wpAny_with_toks (n := tkc + 1) (by first | assumption | omega | (dsimp only; omega)) (lk_Assign (tkc + 1) (by first | assumption | omega | (dsimp only; omega)) lF' (by rfl) (by with_unfolding_all rfl) (by rfl) (by decide) (by rfl) (by decide) (by rfl) (by rfl) (by rfl) ?_ (by intro _; with_unfolding_all rfl))))))
  (k_with "eval ListComp" => ((k_here; (rename Fr _ _ _ _ => lF'); k_dflt (refine wpAny_with_toks (n := tkc + 1) (by first | assumption | omega | (dsimp only; omega)) (lk_ListComp (tkc + 1) (by first | assumption | omega | (dsimp only; omega)) lF' (by rfl) (by decide) (by rfl) (by decide) (by rfl) ?_ (by intro _; with_unfolding_all rfl))))))
  (k_with "call builtin:str.replace" => ((k_here; (refine rep_lit (by first | assumption | omega) (by first | exact Nat.succ_le_succ (Nat.zero_le _) | omega | (dsimp only; omega)) (by first | exact Nat.ne_of_lt (Nat.lt_succ_self _) | omega | (dsimp only; omega)) (by decide +kernel) (by decide +kernel) (by decide +kernel) (by k_dflt kxw_text) ?_); intro _ _)))
  trivial
theorem ea1 : escAll (Str.ofString "cmp") = Str.ofString "cmp" := by decide +kernel
example : True := by
  (k_with "call ref" => ((k_here; (with_reducible show wpAny _ _ (call (Value.ref 209) [Value.str (Str.ofString "cmp") _]) _ _ _); (rename Fr _ _ _ _ => lF'); (rename News _ _ _ _ => lN'); k_dflt (refine (esc_con _ _ _ _ (by decide +kernel)).use lF' lN' (by with_unfolding_all rfl) (by k_extra "my le") (by k_extra "my le") (by assumption) (by assumption) (by assumption) (by rfl) ?_); clear lF' lN'; intro v' news' h' tk' hp' F' N'; (obtain ⟨e1', t', e2'⟩ := hp'; rw [ea1] at e2'; subst e1' e2'))))
  trivial
theorem ea2 : escAll (Str.ofString "a[b]") = Str.ofString "a[[]b]" := by decide +kernel
example : True := by
  (k_with "call ref" => ((k_here; (with_reducible show wpAny _ _ (call (Value.ref 209) [Value.str (Str.ofString "a[b]") _]) _ _ _); (rename Fr _ _ _ _ => lF'); (rename News _ _ _ _ => lN'); k_dflt (refine (esc_con _ _ _ _ (by decide +kernel)).use lF' lN' (by with_unfolding_all rfl) (by k_extra "my le") (by k_extra "my le") (by assumption) (by assumption) (by assumption) (by rfl) ?_); clear lF' lN'; intro v' news' h' tk' hp' F' N'; (obtain ⟨e1', t', e2'⟩ := hp'; rw [ea2] at e2'; subst e1' e2'))))
  trivial
theorem ea3 : escAll (Str.ofString "x*") = Str.ofString "x[*]" := by decide +kernel
example : True := by
  (k_with "call ref" => ((k_here; (with_reducible show wpAny _ _ (call (Value.ref 209) [Value.str (Str.ofString "x*") _]) _ _ _); (rename Fr _ _ _ _ => lF'); (rename News _ _ _ _ => lN'); k_dflt (refine (esc_con _ _ _ _ (by decide +kernel)).use lF' lN' (by with_unfolding_all rfl) (by k_extra "my le") (by k_extra "my le") (by assumption) (by assumption) (by assumption) (by rfl) ?_); clear lF' lN'; intro v' news' h' tk' hp' F' N'; (obtain ⟨e1', t', e2'⟩ := hp'; rw [ea3] at e2'; subst e1' e2'))))
  trivial
theorem ea4 : escAll (Str.ofString "/usr/lib") = Str.ofString "/usr/lib" := by decide +kernel
example : True := by
  (k_with "call ref" => ((k_here; (with_reducible show wpAny _ _ (call (Value.ref 209) [Value.str (Str.ofString "/usr/lib") _]) _ _ _); (rename Fr _ _ _ _ => lF'); (rename News _ _ _ _ => lN'); k_dflt (refine (esc_con _ _ _ _ (by decide +kernel)).use lF' lN' (by with_unfolding_all rfl) (by k_extra "my le") (by k_extra "my le") (by assumption) (by assumption) (by assumption) (by rfl) ?_); clear lF' lN'; intro v' news' h' tk' hp' F' N'; (obtain ⟨e1', t', e2'⟩ := hp'; rw [ea4] at e2'; subst e1' e2'))))
  trivial
theorem ea5 : escAll (Str.ofString "/t[mp]") = Str.ofString "/t[[]mp]" := by decide +kernel
example : True := by
  (k_with "call ref" => ((k_here; (with_reducible show wpAny _ _ (call (Value.ref 209) [Value.str (Str.ofString "/t[mp]") _]) _ _ _); (rename Fr _ _ _ _ => lF'); (rename News _ _ _ _ => lN'); k_dflt (refine (esc_con _ _ _ _ (by decide +kernel)).use lF' lN' (by with_unfolding_all rfl) (by k_extra "my le") (by k_extra "my le") (by assumption) (by assumption) (by assumption) (by rfl) ?_); clear lF' lN'; intro v' news' h' tk' hp' F' N'; (obtain ⟨e1', t', e2'⟩ := hp'; rw [ea5] at e2'; subst e1' e2'))))
  (k_with "call ref" => ((k_here; (with_reducible show wpAny _ _ (call (Value.ref 131) [Value.str _ _, Value.str _ _, Value.str _ _]) _ _ _); (rename Fr _ _ _ _ => lF'); (rename News _ _ _ _ => lN'); k_dflt (refine (tr_con w _ _ hNW hN126 _ _ _ _ _ hpat hrest).use lF' lN' (by with_unfolding_all rfl) (by k_extra "my le") (by k_extra "my le") (by assumption) (by assumption) (by assumption) (by rfl) ⟨by first | assumption | omega | (dsimp only; omega), by first | assumption | omega | (dsimp only; omega)⟩ ?_); clear lF' lN'; intro v' news' h' tk' hp' F' N'; (obtain ⟨a5, vs5, n5, nw5, e1', e2', hNW5, hvs5, hoff5⟩ := hp'; subst e1' e2'))))
  trivial
noncomputable def twRow (ms : List Str) (i j : Nat) : List Str := rowF (ms.take i) ++ (match ms[i]? with | some y => [escM y ++ Str.ofString "", escM y ++ Str.ofString ".*"].take j | none => [])
noncomputable def TwJ (ms : List Str) (i j : Nat) (ys : List Value) : Prop := (j ≠ 0 → i < ms.length) ∧ i ≤ ms.length ∧ j ≤ 2 ∧ ys.length ≤ 2 * i + j ∧ StrsAre ys (twRow ms i j)
noncomputable def TwG (es : List Value) : Prop := ∃ t t', es = [.str (Str.ofString "") t, .str (Str.ofString ".*") t']
theorem rowF_snoc (l : List Str) (y : Str) : rowF (l ++ [y]) = rowF l ++ [escM y ++ Str.ofString "", escM y ++ Str.ofString ".*"] := by simp [rowF]
theorem twJ_next (ms : List Str) : ∀ es i ys, TwG es → TwJ ms i es.length ys → TwJ ms (i + 1) 0 ys := by
  rintro es i ys ⟨t, t', rfl⟩ ⟨h1, h2, h3, h4, h5⟩
  have hi : i < ms.length := h1 (by simp)
  refine ⟨fun h => absurd rfl h, hi, Nat.zero_le _, by simp at h4; omega, ?_⟩
  have e : twRow ms (i + 1) 0 = twRow ms i 2 := by
    unfold twRow
    rw [List.take_succ, List.getElem?_eq_getElem hi]
    have : (match ms[i + 1]? with | some y => [escM y ++ Str.ofString "", escM y ++ Str.ofString ".*"].take 0 | none => []) = [] := by split <;> rfl
    rw [this, List.append_nil]
    exact rowF_snoc _ _
  rw [e]; exact h5
theorem twJ_len {ms : List Str} (hml : ms.length ≤ 3) : ∀ i j ys, TwJ ms i j ys → ys.length ≤ sizeLine := fun i j ys hj => by obtain ⟨_, q1, q2, q3, _⟩ := hj; rw [sizeLine_eq]; omega
theorem twJ_zero (ms : List Str) : TwJ ms 0 0 [] := ⟨fun h => absurd rfl h, Nat.zero_le _, Nat.zero_le _, Nat.le_refl _, by unfold twRow; split <;> exact .nil⟩
theorem twJ_end {ms : List Str} {ys : List Value} (h : TwJ ms ms.length 0 ys) : StrsAre ys (rowF ms) ∧ ys.length ≤ 2 * ms.length := by
  obtain ⟨h1, h2, h3, h4, h5⟩ := h
  refine ⟨?_, h4⟩
  have e : twRow ms ms.length 0 = rowF ms := by
    unfold twRow
    rw [List.take_length, List.getElem?_eq_none (Nat.le_refl _)]
    exact List.append_nil _
  rw [← e]; exact h5
theorem twJ_step0 {ms : List Str} {i : Nat} {ys : List Value} {y : Str} {t : Tok} (h : TwJ ms i 0 ys) (hy : ms[i]? = some y) : TwJ ms i 1 (ys ++ [.str (escM y ++ Str.ofString "") t]) := by
  obtain ⟨h1, h2, h3, h4, h5⟩ := h
  have hi : i < ms.length := (List.getElem?_eq_some_iff.mp hy).1
  refine ⟨fun _ => hi, h2, by omega, by simp; omega, ?_⟩
  have e : twRow ms i 1 = twRow ms i 0 ++ [escM y ++ Str.ofString ""] := by unfold twRow; rw [hy]; simp
  rw [e]; exact kct_snoc h5
theorem twJ_step1 {ms : List Str} {i : Nat} {ys : List Value} {y : Str} {t : Tok} (h : TwJ ms i 1 ys) (hy : ms[i]? = some y) : TwJ ms i 2 (ys ++ [.str (escM y ++ Str.ofString ".*") t]) := by
  obtain ⟨h1, h2, h3, h4, h5⟩ := h
  have hi : i < ms.length := (List.getElem?_eq_some_iff.mp hy).1
  refine ⟨fun _ => hi, h2, by omega, by simp; omega, ?_⟩
  have e : twRow ms i 2 = twRow ms i 1 ++ [escM y ++ Str.ofString ".*"] := by unfold twRow; rw [hy]; simp
  rw [e]; exact kct_snoc h5
theorem offL5 {a b c e f d : Addr} {oa ob oc oe o6 : Obj} {news : List (Addr × Obj)} (h : @LT.lt Nat _ a d ∧ @LT.lt Nat _ b d ∧ @LT.lt Nat _ c d ∧ @LT.lt Nat _ e d ∧ @LT.lt Nat _ f d ∧ AllLt d news) : ∀ p ∈ ((a, oa) : Addr × Obj) :: (b, ob) :: (c, oc) :: (e, oe) :: (f, o6) :: news, p.1 ≠ d :=
  fun p hp => Nat.ne_of_lt (allLt_mem ((a, oa) :: (b, ob) :: (c, oc) :: (e, oe) :: (f, o6) :: news) h p hp)
theorem em1 : escM (Str.ofString "cmp") = Str.ofString "cmp" := by decide +kernel
theorem em2 : escM (Str.ofString "a[b]") = Str.ofString "a[[]b]" := by decide +kernel
theorem em3 : escM (Str.ofString "x*") = Str.ofString "x[*]" := by decide +kernel
theorem fp1 : foldP D1 = Str.ofString "/usr/lib" ++ Str.ofString "/*" := by decide +kernel
theorem fp2 : foldP D2 = Str.ofString "/t[[]mp]" ++ Str.ofString "/*" := by decide +kernel
theorem PartsIn.sub {star : Str} {nw nw' : List (Addr × Obj)} (hs : ∀ p ∈ nw, p ∈ nw') : ∀ {vs : List Value} {ps : List (List Str × Bool)}, PartsIn star nw vs ps → PartsIn star nw' vs ps
  | _, _, .nil => .nil
  | _, _, .cons p k pv cs b vs ps m hs' r => .cons p k pv cs b vs ps (hs _ m) hs' (r.sub hs)
theorem PartsIn.snoc {star : Str} {nw : List (Addr × Obj)} {p : Addr} {k : Nat} {pv : List Value} {q : List Str × Bool} (hm : (p, lst pv k) ∈ nw) (hs : StrsAre pv (q.1 ++ if q.2 then [star] else [])) : ∀ {vs : List Value} {ps : List (List Str × Bool)}, PartsIn star nw vs ps → PartsIn star nw (vs ++ [.ref p]) (ps ++ [q])
  | _, _, .nil => .cons p k pv q.1 q.2 [] [] hm hs .nil
  | _, _, .cons p' k' pv' cs b vs ps m hs' r => .cons p' k' pv' cs b _ _ m hs' (r.snoc hm hs)
/-- the lists of a sieve's rows -/
inductive RowsIn (star : Str) (nw : List (Addr × Obj)) : List Value → List (List (List Str × Bool)) → Prop
  | nil : RowsIn star nw [] []
  | cons (s : Addr) (k : Nat) (vs : List Value) (ps : List (List Str × Bool)) (r : List Value) (pr : List (List (List Str × Bool))) : (s, lst vs k) ∈ nw → PartsIn star nw vs ps → RowsIn star nw r pr → RowsIn star nw (.ref s :: r) (ps :: pr)
theorem RowsIn.sub {star : Str} {nw nw' : List (Addr × Obj)} (hs : ∀ p ∈ nw, p ∈ nw') : ∀ {vs : List Value} {ps : List (List (List Str × Bool))}, RowsIn star nw vs ps → RowsIn star nw' vs ps
  | _, _, .nil => .nil
  | _, _, .cons s k vs ps r pr m hp q => .cons s k vs ps r pr (hs _ m) (hp.sub hs) (q.sub hs)
theorem RowsIn.snoc {star : Str} {nw : List (Addr × Obj)} {s : Addr} {k : Nat} {vs : List Value} {ps : List (List Str × Bool)} (hm : (s, lst vs k) ∈ nw) (hp : PartsIn star nw vs ps) : ∀ {r : List Value} {pr : List (List (List Str × Bool))}, RowsIn star nw r pr → RowsIn star nw (r ++ [.ref s]) (pr ++ [ps])
  | _, _, .nil => .cons s k vs ps [] [] hm hp .nil
  | _, _, .cons s' k' vs' ps' r pr m hp' q => .cons s' k' vs' ps' _ _ m hp' (q.snoc hm hp)
theorem row_pats {ms : List Str} (hms : ∀ y ∈ ms, y = Str.ofString "cmp" ∨ y = Str.ofString "a[b]" ∨ y = Str.ofString "x*") : ∀ p ∈ rowF ms, p ∈ Pats := by
  intro p hp
  obtain ⟨y, hy, hp⟩ := List.mem_flatMap.mp hp
  have : ∀ y ∈ [Str.ofString "cmp", Str.ofString "a[b]", Str.ofString "x*"], ∀ p ∈ [escM y ++ Str.ofString "", escM y ++ Str.ofString ".*"], p ∈ Pats := by decide +kernel
  exact this y (by rcases hms y hy with rfl | rfl | rfl <;> simp) p hp
theorem fold_pats {fs : List Str} (hfs : ∀ x ∈ fs, x = D1 ∨ x = D2) : ∀ p ∈ fs.map foldP, p ∈ Pats := by
  intro p hp
  obtain ⟨y, hy, rfl⟩ := List.mem_map.mp hp
  rcases hfs y hy with rfl | rfl
  · decide +kernel
  · decide +kernel
noncomputable def rowsF (ms fs : List Str) : List (List (List Str × Bool)) := [(rowF ms).map partsF, (fs.map foldP).map partsF]
theorem pm1 {α : Type} {x a b c : α} {r : List α} : ∀ p ∈ x :: a :: b :: c :: r, p ∈ a :: b :: c :: x :: r := by
  intro p hp; simp only [List.mem_cons] at hp ⊢; grind
theorem pm2 {α : Type} {a x i c d : α} {r n0 pl2 pl : List α} : ∀ p ∈ i :: c :: d :: x :: (r ++ (n0 ++ ((a :: pl2) ++ pl))), p ∈ a :: x :: i :: c :: d :: (r ++ (n0 ++ (pl2 ++ pl))) := by
  intro p hp; simp only [List.mem_cons, List.mem_append] at hp ⊢; grind
theorem pm3 {α : Type} {e x i c d : α} {r n0 pl : List α} : ∀ p ∈ i :: c :: d :: x :: (r ++ (n0 ++ (e :: pl))), p ∈ e :: x :: i :: c :: d :: (r ++ (n0 ++ pl)) := by
  intro p hp; simp only [List.mem_cons, List.mem_append] at hp ⊢; grind
theorem pm5 {α : Type} {a b c : α} {r n0 : List α} : ∀ p ∈ a :: b :: c :: n0, p ∈ a :: b :: c :: (r ++ n0) := by
  intro p hp; simp only [List.mem_cons, List.mem_append] at hp ⊢; grind
theorem pm4 {α : Type} {x a b c : α} {r : List α} : ∀ p ∈ a :: b :: c :: x :: r, p ∈ x :: a :: b :: c :: r := by
  intro p hp; simp only [List.mem_cons] at hp ⊢; grind
/-- what a row's source is -/
noncomputable def SrcOk (R4 : List (Addr × Obj)) (i : Nat) (ms fs : List Str) (v : Value) : Prop := ∃ rD vsr patsr, v = .ref rD ∧ (rD, LCg.lst vsr) ∈ R4 ∧ StrsAre vsr patsr ∧ (∀ p ∈ patsr, p ∈ Pats) ∧ vsr.length ≤ 6 ∧ (rowsF ms fs)[i]? = some (patsr.map partsF)
/-- the state between the rows -/
noncomputable def RwJ (R4 news0 : List (Addr × Obj)) (ms fs : List Str) (i : Nat) (ys : List Value) (nw : List (Addr × Obj)) : Prop := ∃ pl o, nw = (126, o) :: (R4 ++ (news0 ++ pl)) ∧ TabOk 156 39 o ∧ (∀ p ∈ pl, p.1 ≠ 126) ∧ RowsIn (Str.ofString "many") pl ys ((rowsF ms fs).take i)
noncomputable def RiJ (R4 news0 pl : List (Addr × Obj)) (I : Addr) (oI : Obj) (C : Addr) (oC : Obj) (D : Addr) (oD : Obj) (patsr : List Str) (i : Nat) (ys : List Value) (nw : List (Addr × Obj)) : Prop :=
  ∃ pl2 o, nw = (126, o) :: (I, oI) :: (C, oC) :: (D, oD) :: (R4 ++ (news0 ++ (pl2 ++ pl))) ∧ TabOk 156 39 o ∧ (∀ p ∈ pl2, p.1 ≠ 126 ∧ p.1 ≠ I ∧ p.1 ≠ C ∧ p.1 ≠ D) ∧ PartsIn (Str.ofString "many") pl2 ys ((patsr.take i).map partsF)
namespace Hsv_con
noncomputable def Pre (w : World) (news0 : List (Addr × Obj)) (am : Addr) (af : Addr) (n1 : Nat) (n2 : Nat) (vs : List Value) (us : List Value) (ms : List Str) (fs : List Str) (cd : CD) : Prop :=
  ∀ (news : List (Addr × Obj)), (NwOk news0 news) → (∀ p ∈ news0, p.1 ≠ 126) → ((am, lst vs n1) ∈ news0) → ((af, lst us n2) ∈ news0) → (StrsAre vs ms) → (StrsAre us fs) → (ms.length ≤ 3) → (fs.length ≤ 2) → (∀ y ∈ ms, y = Str.ofString "cmp" ∨ y = Str.ofString "a[b]" ∨ y = Str.ofString "x*") → (∀ x ∈ fs, x = D1 ∨ x = D2) → cd.OkT 440 w 214 [.ref am, .ref af] news (fun t0 => @LE.le Nat _ 1 t0) (fun _ _ v news' => ∃ tp sv t1 k ys pl o, v = .ref tp ∧ news' = (tp, tupO [.ref sv, .str (Str.ofString "many") t1]) :: (sv, lst ys k) :: (126, o) :: (news0 ++ pl) ∧ TabOk 156 39 o ∧ RowsIn (Str.ofString "many") pl ys (rowsF ms fs))
noncomputable abbrev Dat : Type := World × (List (Addr × Obj)) × Addr × Addr × Nat × Nat × (List Value) × (List Value) × (List Str) × (List Str) × CD
noncomputable def d₀ : Dat := (wd, [], (0 : Nat), (0 : Nat), 0, 0, [], [], [], [], CD.d)
@[irreducible] noncomputable def z₀ : Dat := eps d₀ fun z => ¬ Pre z.1 z.2.1 z.2.2.1 z.2.2.2.1 z.2.2.2.2.1 z.2.2.2.2.2.1 z.2.2.2.2.2.2.1 z.2.2.2.2.2.2.2.1 z.2.2.2.2.2.2.2.2.1 z.2.2.2.2.2.2.2.2.2.1 z.2.2.2.2.2.2.2.2.2.2
@[irreducible] noncomputable def w : World := z₀.1
@[irreducible] noncomputable def news0 : List (Addr × Obj) := z₀.2.1
@[irreducible] noncomputable def am : Addr := z₀.2.2.1
@[irreducible] noncomputable def af : Addr := z₀.2.2.2.1
@[irreducible] noncomputable def n1 : Nat := z₀.2.2.2.2.1
@[irreducible] noncomputable def n2 : Nat := z₀.2.2.2.2.2.1
@[irreducible] noncomputable def vs : List Value := z₀.2.2.2.2.2.2.1
@[irreducible] noncomputable def us : List Value := z₀.2.2.2.2.2.2.2.1
@[irreducible] noncomputable def ms : List Str := z₀.2.2.2.2.2.2.2.2.1
@[irreducible] noncomputable def fs : List Str := z₀.2.2.2.2.2.2.2.2.2.1
@[irreducible] noncomputable def cd : CD := z₀.2.2.2.2.2.2.2.2.2.2
@[irreducible] noncomputable def ent : (B : Heap → Addr → Heap → Prop) ×' ((∀ g L h, B g L h) → Pre w news0 am af n1 n2 vs us ms fs cd) := by
  apply PSigma.mk
  intro hB
  intro news hnw hn0 h1 h2 hv hu hml hfl hms hfs hdp hun B F X N T hpre hQ
  have hk : (⟨.function, cd.cnm, cd.cg, cd.cc, cd.cm⟩ : Scope).kind = .function := rfl
  refine wpAny_call ?_
  k_dflt (refine' code_tokC ?k1 ?k2 ?k3 ?k4 ?k5 ?kA ?kF ?kK ?k6 ?k7 ?k8 ?k9 ?kB ?kD ?_ ?c2 ?c3 ?c4; (case kA => exact rfl); (case kF => exact rfl); (case kK => first | exact rfl | assumption); (case k1 => k_asm); (case k2 => k_asm); (case k3 => k_asm); (case k4 => k_asm); (case k5 => k_asm); (case k6 => k_is); (case k7 => k_is); (case k8 => k_room); (case k9 => first | exact BindsTo.of_eq rfl | exact binds_K (by k_in) rfl (by k_is) rfl rfl rfl | fail "k_enter: no rule for these arguments"); (case kB => exact rfl); (case kD => decide +kernel); (case c2 => exact rfl); (case c3 => exact rfl); (case c4 => exact rfl); k_whole; intro g1 L1 hp1 tkc cells1 htk0 FG1 F1 N1 Y1 B1 X1 T1 l1)
  clear hk
  revert news hnw hn0 h1 h2 hv hu hml hfl hms hfs hdp hun B F X N T hpre hQ tkc cells1 htk0 FG1 F1 N1 Y1 B1 X1 T1 l1
  exact hB g1 L1 hp1
noncomputable abbrev Dat₂ : Type := Heap × Addr × Heap
@[irreducible] noncomputable def z₂ : Dat₂ := eps ({}, (0 : Nat), {}) fun z => ¬ ent.1 z.1 z.2.1 z.2.2
@[irreducible] noncomputable def g1 : Heap := z₂.1
@[irreducible] noncomputable def L1 : Addr := z₂.2.1
@[irreducible] noncomputable def hp1 : Heap := z₂.2.2
theorem body : ent.1 g1 L1 hp1 := by
  delta ent
  intro news hnw hn0 h1 h2 hv hu hml hfl hms hfs hdp hun B F X N T hpre hQ tkc cells1 htk0 FG1 F1 N1 Y1 B1 X1 T1 l1
  have hk : (⟨.function, cd.cnm, cd.cg, cd.cc, cd.cm⟩ : Scope).kind = .function := rfl
  have htk1 : @LE.le Nat _ 1 tkc := Nat.le_trans hpre htk0
  obtain ⟨oA, hE, dA⟩ := CellsAre.one Y1
  subst hE
  clear Y1
  simp only [List.cons_append, List.nil_append] at N1
  have dA' : oA.data = .cell none := dA
  clear dA
  k_steps
  (rename Fr g1 L1 _ _ => lF'); (rename News g1 L1 _ _ => lN'); (rename Obj => oB)
  obtain ⟨oT, hTo, rfl⟩ := hnw
  have hJ00 : TwJ ms 0 0 [] := twJ_zero ms
  have hT2 := twJ_len hml
  have hT3 := twJ_next ms
  refine' tw_src (ax := am) (its := vs) (k := n1) TwG (TwJ ms) ?hh ?f ?n ?mm hT2 hT3 hJ00 ?go
  case f => exact lF'
  case n => exact lN'
  case hh => rfl
  case mm => exact (.tail _ (.tail _ h1))
  clear lF' lN'
  intro gg1
  refine ⟨⟨?iter, ?elt⟩, ?fin⟩
  case iter =>
    intro i v ys I oI C oC D m₂ h tk E' hv9 hJ hC hx F3 N3 off3 ne3
    k_steps
    (rename Fr g1 L1 _ _ => lF'); (rename News g1 L1 _ _ => lN'); (rename _ ∧ _ ∧ _ ∧ _ ∧ _ ∧ AllLt _ news0 => hl9)
    exact ⟨_, [.str (Str.ofString "") _, .str (Str.ofString ".*") _], _, _, ⟨_, _, rfl⟩, rfl, rfl, lF', lN', offL5 hl9⟩
  case elt =>
    intro i j v e es ys I2 oI2 T I oI C oC D m₂ h tk E' hG hv9 he9 hJ hC hx hx2 F3 N3 off3 ne3
    obtain ⟨y, u, rfl, hfy⟩ := strsAt hv hv9
    obtain ⟨t8, t9, rfl⟩ := hG
    have hmm : y ∈ ms := List.mem_of_getElem? hfy
    match j, he9 with
    | 0, he9 =>
      cases he9
      rcases hms y hmm with rfl | rfl | rfl
      all_goals
        k_steps
        (rename Fr _ _ _ _ => lF'); (rename News _ _ _ _ => lN')
        have q9 := fun t => twJ_step0 (t := t) hJ hfy
        simp only [em1, em2, em3] at q9
        exact ⟨_, _, rfl, lF', lN', q9 _⟩
    | 1, he9 =>
      cases he9
      rcases hms y hmm with rfl | rfl | rfl
      all_goals
        k_steps
        (rename Fr _ _ _ _ => lF'); (rename News _ _ _ _ => lN')
        have q9 := fun t => twJ_step1 (t := t) hJ hfy
        simp only [em1, em2, em3] at q9
        exact ⟨_, _, rfl, lF', lN', q9 _⟩
    | j + 2, he9 => simp at he9
  case fin =>
    intro ys1 hJ1 D1' h tk F3 N3 off3 htk3
    rw [hv.length] at hJ1
    obtain ⟨hys1, hyl1⟩ := twJ_end hJ1
    k_steps
    (rename Fr g1 L1 _ _ => lF'); (rename News g1 L1 _ _ => lN')
    refine' lk_src (ax := af) (its := us) (o := lst us n2) (fun i ys nw => nw = (D1', LCg.lst ys1) :: (L1 + 1, oB) :: (126, oT) :: news0 ∧ StrsAre ys ((fs.take i).map foldP) ∧ ys.length ≤ i) ?hh2 ?f2 ?nn2 ?mm2 (.inr ⟨n2, rfl⟩) ?sz2 ⟨rfl, .nil, Nat.le_refl _⟩ ?go2
    case f2 => exact lF'
    case nn2 => exact lN'
    case hh2 => rfl
    case mm2 => exact (.tail _ (.tail _ (.tail _ h2)))
    case sz2 => rw [hu.length, sizeLine_eq]; omega
    clear lF' lN'
    intro gg2
    refine ⟨?elt2, ?fin2⟩
    case elt2 =>
      intro i v ys nw I oI C oC D m₂ h tk E' hin htk hv9 hJ hS hC hx F3 N3 off3' ne3
      obtain ⟨rfl, hj, hjl⟩ := hJ
      obtain ⟨y, u, rfl, hfy⟩ := strsAt hu hv9
      have hmm : y ∈ fs := List.mem_of_getElem? hfy
      have htk9 : 1 ≤ tk := Nat.le_trans (Nat.le_add_left 1 tkc) htk
      rcases hfs y hmm with rfl | rfl
      all_goals (try unfold D1 at hx); all_goals (try unfold D2 at hx)
      all_goals
        k_steps
        (rename Fr _ _ _ _ => lF'); (rename News _ _ _ _ => lN')
        refine ⟨_, _, _, rfl, lF', lN', off3', hS, rfl, ?_, by simp; omega⟩
        rw [take_map hfy]
        simp only [fp1, fp2]
        exact kct_snoc hj
    case fin2 =>
      rintro ys2 nw ⟨rfl, hys2, hyl2⟩ D2' h tk F3 N3 off4 htk4
      k_steps
      (rename Fr g1 L1 _ _ => lF'); (rename News g1 L1 _ _ => lN'); (rename _ ∧ _ ∧ _ ∧ _ ∧ AllLt _ news0 => hl8); (rename Addr => T0)
      have hR4 : ∀ p ∈ ((T0, tupO [.ref D1', .ref D2']) : Addr × Obj) :: (D2', LCg.lst ys2) :: (D1', LCg.lst ys1) :: (L1 + 1, oB) :: news0, p.1 ≠ 126 := by
        intro p hp
        have q1 := off1_mem off4 (126, oT) (.tail _ (.tail _ (.head _)))
        have q2 := off1_mem off3 (126, oT) (.tail _ (.head _))
        have q3 := l1 (126, oT) (.head _)
        have q4 := hl8.2.2.2.1
        rcases List.mem_cons.mp hp with rfl | hp
        · exact Ne.symm (Nat.ne_of_lt q4)
        rcases List.mem_cons.mp hp with rfl | hp
        · exact Ne.symm q1
        rcases List.mem_cons.mp hp with rfl | hp
        · exact Ne.symm q2
        rcases List.mem_cons.mp hp with rfl | hp
        · exact Ne.symm (Nat.ne_of_lt (Nat.lt_succ_of_lt q3))
        · exact hn0 p hp
      have hsrc : ∀ i v, ([.ref D1', .ref D2'] : List Value)[i]? = some v → SrcOk [(T0, tupO [.ref D1', .ref D2']), (D2', LCg.lst ys2), (D1', LCg.lst ys1), (L1 + 1, oB)] i ms fs v := by
        intro i v hi
        match i, hi with
        | 0, hi => cases hi; exact ⟨D1', ys1, rowF ms, rfl, .tail _ (.tail _ (.head _)), hys1, row_pats hms, by omega, rfl⟩
        | 1, hi => cases hi; exact ⟨D2', ys2, fs.map foldP, rfl, .tail _ (.head _), by rw [hu.length, List.take_length] at hys2; exact hys2, fold_pats hfs, by rw [hu.length] at hyl2; omega, rfl⟩
        | j + 2, hi => simp at hi
      refine' lk_src (ax := T0) (its := [.ref D1', .ref D2']) (o := tupO [.ref D1', .ref D2']) (news := (126, oT) :: (T0, tupO [.ref D1', .ref D2']) :: (D2', LCg.lst ys2) :: (D1', LCg.lst ys1) :: (L1 + 1, oB) :: (news0 ++ [])) (RwJ [(T0, tupO [.ref D1', .ref D2']), (D2', LCg.lst ys2), (D1', LCg.lst ys1), (L1 + 1, oB)] news0 ms fs) ?hh3 ?f3 ?nn3 ?mm3 (.inl rfl) ?sz3 ⟨[], oT, rfl, hTo, (fun _ h => by cases h), .nil⟩ ?go3
      case f3 => exact lF'
      case nn3 => exact fun p hp => lN' p (by simp only [List.mem_cons, List.append_nil] at hp ⊢; grind)
      case hh3 => rfl
      case mm3 => exact (.tail _ (.head _))
      case sz3 => show 2 ≤ sizeLine; rw [sizeLine_eq]; omega
      clear lF' lN'
      intro gg3
      refine ⟨?elt3, ?fin3⟩
      case elt3 =>
        intro i v ys nw I oI C oC D m₂ h tk E' hin htk hv9 hJ hS hC hx F3 N3 off5 ne3
        obtain ⟨pl, o, rfl, hTo1, hpl, hrows⟩ := hJ
        obtain ⟨rD, vsr, patsr, rfl, hrD, hvsr, hpr, hlr, hri⟩ := hsrc i v hv9
        simp only [List.cons_append, List.nil_append] at N3 off5 hS
        k_steps
        (rename Fr g1 L1 _ _ => lF'); (rename News g1 L1 _ _ => lN')
        refine' lk_src (ax := rD) (its := vsr) (o := LCg.lst vsr) (news := (126, o) :: (I, oI) :: (C, oC) :: (D, LCg.lst ys) :: (T0, tupO [.ref D1', .ref D2']) :: (D2', LCg.lst ys2) :: (D1', LCg.lst ys1) :: (L1 + 1, oB) :: (news0 ++ ([] ++ pl))) (RiJ [(T0, tupO [.ref D1', .ref D2']), (D2', LCg.lst ys2), (D1', LCg.lst ys1), (L1 + 1, oB)] news0 pl I oI C oC D (LCg.lst ys) patsr) ?hh4 ?f4 ?nn4 ?mm4 (.inr ⟨vsr.length, rfl⟩) ?sz4 ⟨[], o, rfl, hTo1, (fun _ h => by cases h), .nil⟩ ?go4
        case f4 => exact lF'
        case nn4 => exact fun p hp => lN' p (pm1 p hp)
        case hh4 => rfl
        case mm4 => exact (.tail _ (.tail _ (.tail _ (.tail _ (List.mem_append_left (news0 ++ pl) hrD)))))
        case sz4 => rw [sizeLine_eq]; omega
        clear lF' lN'
        intro gg4
        refine ⟨?elt4, ?fin4⟩
        case elt4 =>
          intro i2 v2 ys3 nw2 I2 oI2 C2 oC2 D2 m₃ h2 tk2 E2 hin2 htk2 hv2 hJ2 hS2 hC2 hx2 F5 N5 off6 ne5
          obtain ⟨pl2, o2, rfl, hTo2, hpl2, hparts⟩ := hJ2
          obtain ⟨y, u, rfl, hfy⟩ := strsAt hvsr hv2
          have hyp : y ∈ Pats := hpr y (List.mem_of_getElem? hfy)
          have hpat := pats_small y hyp
          have hrest := rest_all w y hyp
          simp only [List.cons_append, List.nil_append] at N5 off6 hS2
          have o6 := LCg.Off3.mem off6
          have o5 := LCg.Off3.mem off5
          have N6 : News g1 L1 h2 ((126, o2) :: (I2, oI2) :: (C2, oC2) :: (D2, LCg.lst ys3) :: (I, oI) :: (C, oC) :: (D, LCg.lst ys) :: (T0, tupO [.ref D1', .ref D2']) :: (D2', LCg.lst ys2) :: (D1', LCg.lst ys1) :: (L1 + 1, oB) :: (news0 ++ (pl2 ++ pl))) := fun p hp => N5 p (pm1 p hp)
          clear N5
          have hNW : NwOk ((I2, oI2) :: (C2, oC2) :: (D2, LCg.lst ys3) :: (I, oI) :: (C, oC) :: (D, LCg.lst ys) :: (T0, tupO [.ref D1', .ref D2']) :: (D2', LCg.lst ys2) :: (D1', LCg.lst ys1) :: (L1 + 1, oB) :: (news0 ++ (pl2 ++ pl))) ((126, o2) :: (I2, oI2) :: (C2, oC2) :: (D2, LCg.lst ys3) :: (I, oI) :: (C, oC) :: (D, LCg.lst ys) :: (T0, tupO [.ref D1', .ref D2']) :: (D2', LCg.lst ys2) :: (D1', LCg.lst ys1) :: (L1 + 1, oB) :: (news0 ++ (pl2 ++ pl))) := ⟨o2, hTo2, rfl⟩
          have hN126 : ∀ p ∈ ((I2, oI2) : Addr × Obj) :: (C2, oC2) :: (D2, LCg.lst ys3) :: (I, oI) :: (C, oC) :: (D, LCg.lst ys) :: (T0, tupO [.ref D1', .ref D2']) :: (D2', LCg.lst ys2) :: (D1', LCg.lst ys1) :: (L1 + 1, oB) :: (news0 ++ (pl2 ++ pl)), p.1 ≠ 126 := by
            obtain ⟨z1, z2, z3⟩ := o6 (126, o2) (.head _)
            obtain ⟨z4, z5, z6⟩ := o5 (126, o) (.head _)
            intro p hp
            simp only [List.mem_cons, List.mem_append] at hp hR4
            rcases hp with rfl | rfl | rfl | rfl | rfl | rfl | hp | hp | hp | hp | hp | hp | hp
            · exact Ne.symm z1
            · exact Ne.symm z2
            · exact Ne.symm z3
            · exact Ne.symm z4
            · exact Ne.symm z5
            · exact Ne.symm z6
            · exact hR4 p (.inl hp)
            · exact hR4 p (.inr (.inl hp))
            · exact hR4 p (.inr (.inr (.inl hp)))
            · exact hR4 p (.inr (.inr (.inr (.inl hp))))
            · exact hR4 p (.inr (.inr (.inr (.inr hp))))
            · exact (hpl2 p hp).1
            · exact hpl p hp
          k_steps
          (rename Fr g1 L1 _ _ => lF'); (rename News g1 L1 _ _ => lN')
          obtain ⟨o3, hTo3, rfl⟩ := hNW5
          refine ⟨_, _, (126, o3) :: (I, oI) :: (C, oC) :: (D, LCg.lst ys) :: (T0, tupO [.ref D1', .ref D2']) :: (D2', LCg.lst ys2) :: (D1', LCg.lst ys1) :: (L1 + 1, oB) :: (news0 ++ (((a5, lst vs5 n5) :: pl2) ++ pl)), rfl, lF', fun p hp => lN' p (pm2 (r := [(I, oI), (C, oC), (D, LCg.lst ys), (T0, tupO [.ref D1', .ref D2']), (D2', LCg.lst ys2), (D1', LCg.lst ys1), (L1 + 1, oB)]) p hp), LCg.Off3.of fun p hp => ?_, ?_, (a5, lst vs5 n5) :: pl2, o3, rfl, hTo3, fun p hp => ?_, ?_⟩
          · have hp' : p = (a5, lst vs5 n5) ∨ p = (126, o3) ∨ p ∈ ((126, o2) : Addr × Obj) :: (I, oI) :: (C, oC) :: (D, LCg.lst ys) :: (T0, tupO [.ref D1', .ref D2']) :: (D2', LCg.lst ys2) :: (D1', LCg.lst ys1) :: (L1 + 1, oB) :: (news0 ++ (pl2 ++ pl)) := by
              simp only [List.mem_cons, List.mem_append] at hp ⊢; grind
            rcases hp' with rfl | rfl | hp'
            · exact ⟨Ne.symm (hoff5 (I2, oI2) (.tail _ (.head _))), Ne.symm (hoff5 (C2, oC2) (.tail _ (.tail _ (.head _)))), Ne.symm (hoff5 (D2, LCg.lst ys3) (.tail _ (.tail _ (.tail _ (.head _)))))⟩
            · exact o6 (126, o2) (.head _)
            · exact o6 p hp'
          · exact .tail _ (.tail _ (.tail _ (.tail _ (List.mem_append_left (news0 ++ (((a5, lst vs5 n5) :: pl2) ++ pl)) hrD))))
          · rcases List.mem_cons.mp hp with rfl | hp
            · exact ⟨Ne.symm (hoff5 (126, o3) (.head _)), Ne.symm (hoff5 (I, oI) (.tail _ (.tail _ (.tail _ (.tail _ (.head _)))))), Ne.symm (hoff5 (C, oC) (.tail _ (.tail _ (.tail _ (.tail _ (.tail _ (.head _))))))), Ne.symm (hoff5 (D, LCg.lst ys) (.tail _ (.tail _ (.tail _ (.tail _ (.tail _ (.tail _ (.head _))))))))⟩
            · exact hpl2 p hp
          · rw [List.take_succ, hfy]
            simp only [Option.toList_some, List.map_append, List.map_cons, List.map_nil]
            exact (hparts.sub fun p hp => .tail _ hp).snoc (.head _) hvs5
        case fin4 =>
          rintro ys3 nw2 ⟨pl2, o2, rfl, hTo2, hpl2, hparts⟩ D2 h2 tk2 F5 N5 off6 htk5
          simp only [List.cons_append, List.nil_append] at N5 off6
          have o6 := off1_mem off6
          have o5 := LCg.Off3.mem off5
          rw [hvsr.length, List.take_length] at hparts
          refine ⟨_, _, (126, o2) :: (T0, tupO [.ref D1', .ref D2']) :: (D2', LCg.lst ys2) :: (D1', LCg.lst ys1) :: (L1 + 1, oB) :: (news0 ++ ((D2, LCg.lst ys3) :: (pl2 ++ pl))), rfl, F5, fun p hp => N5 p (pm3 (r := [(T0, tupO [.ref D1', .ref D2']), (D2', LCg.lst ys2), (D1', LCg.lst ys1), (L1 + 1, oB)]) p hp), LCg.Off3.of fun p hp => ?_, .tail _ (.head _), (D2, LCg.lst ys3) :: (pl2 ++ pl), o2, rfl, hTo2, fun p hp => ?_, ?_⟩
          · have hp' : p = (D2, LCg.lst ys3) ∨ p = (126, o2) ∨ p ∈ pl2 ∨ p ∈ ((126, o) : Addr × Obj) :: (T0, tupO [.ref D1', .ref D2']) :: (D2', LCg.lst ys2) :: (D1', LCg.lst ys1) :: (L1 + 1, oB) :: (news0 ++ pl) := by
              simp only [List.mem_cons, List.mem_append] at hp ⊢; grind
            rcases hp' with rfl | rfl | hp' | hp'
            · exact ⟨Ne.symm (o6 (I, oI) (.tail _ (.head _))), Ne.symm (o6 (C, oC) (.tail _ (.tail _ (.head _)))), Ne.symm (o6 (D, LCg.lst ys) (.tail _ (.tail _ (.tail _ (.head _)))))⟩
            · exact o5 (126, o) (.head _)
            · exact (hpl2 p hp').2
            · exact o5 p hp'
          · rcases List.mem_cons.mp hp with rfl | hp
            · exact Ne.symm (o6 (126, o2) (.head _))
            rcases List.mem_append.mp hp with hp | hp
            · exact (hpl2 p hp).1
            · exact hpl p hp
          · rw [List.take_succ, hri]
            exact (hrows.sub fun p hp => .tail _ (List.mem_append_right _ hp)).snoc (.head _) (hparts.sub fun p hp => .tail _ (List.mem_append_left _ hp))
      case fin3 =>
        rintro ys4 nw ⟨pl, o, rfl, hTo1, hpl, hrows⟩ D4 h tk F3 N3 off5 htk5
        simp only [List.cons_append, List.nil_append] at N3 off5
        k_steps
        (rename Fr cd.h₀ cd.L _ _ => kF'); (rename News cd.h₀ cd.L _ _ => kN')
        exact hQ _ _ _ _ ⟨_, D4, _, ys4.length, ys4, pl, o, rfl, rfl, hTo1, hrows⟩ kF' (cb_drop kN' (pm5 (r := [(T0, tupO [.ref D1', .ref D2']), (D2', LCg.lst ys2), (D1', LCg.lst ys1), (L1 + 1, oB)])))
theorem main : Pre w news0 am af n1 n2 vs us ms fs cd := PSigma.snd ent (eps_all3 (P := ent.1) (z := z₂) (by delta z₂; exact rfl) (by delta g1; exact rfl) (by delta L1; exact rfl) (by delta hp1; exact rfl) body)
end Hsv_con
theorem sv_con (w : World) (news0 news : List (Addr × Obj)) (hnw : NwOk news0 news) (hn0 : ∀ p ∈ news0, p.1 ≠ 126) (am af : Addr) (n1 n2 : Nat) (vs us : List Value) (ms fs : List Str) (h1 : (am, lst vs n1) ∈ news0) (h2 : (af, lst us n2) ∈ news0) (hv : StrsAre vs ms) (hu : StrsAre us fs) (hml : ms.length ≤ 3) (hfl : fs.length ≤ 2) (hms : ∀ y ∈ ms, y = Str.ofString "cmp" ∨ y = Str.ofString "a[b]" ∨ y = Str.ofString "x*") (hfs : ∀ x ∈ fs, x = D1 ∨ x = D2) :
    ConT 440 w 214 [.ref am, .ref af] news (fun t0 => @LE.le Nat _ 1 t0) (fun _ _ v news' => ∃ tp sv t1 k ys pl o, v = .ref tp ∧ news' = (tp, tupO [.ref sv, .str (Str.ofString "many") t1]) :: (sv, lst ys k) :: (126, o) :: (news0 ++ pl) ∧ TabOk 156 39 o ∧ RowsIn (Str.ofString "many") pl ys (rowsF ms fs)) :=
  conT_of fun c => eps_allz (z := Hsv_con.z₀) (P := fun z : Hsv_con.Dat => Hsv_con.Pre z.1 z.2.1 z.2.2.1 z.2.2.2.1 z.2.2.2.2.1 z.2.2.2.2.2.1 z.2.2.2.2.2.2.1 z.2.2.2.2.2.2.2.1 z.2.2.2.2.2.2.2.2.1 z.2.2.2.2.2.2.2.2.2.1 z.2.2.2.2.2.2.2.2.2.2) (by delta Hsv_con.z₀; exact rfl) (by with_unfolding_all exact Hsv_con.main) (w, news0, am, af, n1, n2, vs, us, ms, fs, c) news hnw hn0 h1 h2 hv hu hml hfl hms hfs
end
section
noncomputable def MS3 : List Str := [Str.ofString "cmp", Str.ofString "a[b]", Str.ofString "x*"]
noncomputable def FS2 : List Str := [Str.ofString "/usr/./lib/", Str.ofString "/t[mp]"]
theorem selF_sub (x : Int) (off : Nat) : ∀ (l : List Str) (i : Nat), (selF x off i l).Sublist l
  | [], _ => .slnil
  | y :: r, i => by
    unfold selF
    split
    · exact (selF_sub x off r (i + 1)).cons_cons y
    · exact (selF_sub x off r (i + 1)).cons y
theorem mods_sub (x : Int) : (modsF x).Sublist MS3 := selF_sub x 0 _ 0
theorem flds_sub (x : Int) : (fldsF x).Sublist FS2 := selF_sub x 3 _ 0
theorem mods_nodup (x : Int) : (modsF x).Nodup := (mods_sub x).nodup (by decide +kernel)
theorem mods_len (x : Int) : (modsF x).length ≤ 3 := (mods_sub x).length_le
theorem flds_len (x : Int) : (fldsF x).length ≤ 2 := (flds_sub x).length_le
theorem mods_in {x : Int} : ∀ y ∈ modsF x, y ∈ MS3 := fun _ h => (mods_sub x).subset h
theorem flds_in {x : Int} : ∀ y ∈ fldsF x, y ∈ FS2 := fun _ h => (flds_sub x).subset h
theorem mods_or {x : Int} : ∀ y ∈ modsF x, y = Str.ofString "cmp" ∨ y = Str.ofString "a[b]" ∨ y = Str.ofString "x*" := fun y h => by
  have := mods_in y h
  simpa only [MS3, List.mem_cons, List.not_mem_nil, or_false] using this
theorem flds_or {x : Int} : ∀ y ∈ fldsF x, y = D1 ∨ y = D2 := fun y h => by
  have := flds_in y h
  simpa only [FS2, List.mem_cons, List.not_mem_nil, or_false] using this
theorem small_all : ∀ y ∈ MS3 ++ FS2 ++ FS2.map dirF ++ modL ++ namL, Small y := by decide +kernel
theorem mods_small {x : Int} : ∀ y ∈ modsF x, Small y := fun y h => small_all y (by simp only [List.mem_append]; exact .inl (.inl (.inl (.inl (mods_in y h)))))
theorem dirs_small {x : Int} : ∀ y ∈ (fldsF x).map dirF, Small y := fun y h => small_all y (by
  obtain ⟨z, hz, rfl⟩ := List.mem_map.mp h
  simp only [List.mem_append]; exact .inl (.inl (.inr (List.mem_map_of_mem (flds_in z hz)))))
theorem modAt_in (x : Int) : modAt x ∈ modL := by
  have h : ((x.fdiv 8).fmod 8).toNat < modL.length := by
    have h1 := Int.fmod_nonneg_of_pos (x.fdiv 8) (by decide : (0 : Int) < 8)
    have h2 := Int.fmod_lt_of_pos (x.fdiv 8) (by decide : (0 : Int) < 8)
    show _ < 8
    omega
  unfold modAt
  rw [List.getD_eq_getElem?_getD, List.getElem?_eq_getElem h]
  exact List.getElem_mem h
theorem namAt_in (x : Int) : namAt x ∈ namL := by
  have h : ((x.fdiv 64).fmod 6).toNat < namL.length := by
    have h1 := Int.fmod_nonneg_of_pos (x.fdiv 64) (by decide : (0 : Int) < 6)
    have h2 := Int.fmod_lt_of_pos (x.fdiv 64) (by decide : (0 : Int) < 6)
    show _ < 6
    omega
  unfold namAt
  rw [List.getD_eq_getElem?_getD, List.getElem?_eq_getElem h]
  exact List.getElem_mem h
theorem mod_small (x : Int) : Small (modAt x) := small_all _ (by simp only [List.mem_append]; exact .inl (.inr (modAt_in x)))
theorem nam_small (x : Int) : Small (namAt x) := small_all _ (by simp only [List.mem_append]; exact .inr (namAt_in x))
theorem and_hi (n : Nat) (h : n < 65536) : n &&& 61440 = n / 4096 * 4096 := by
  apply Nat.eq_of_testBit_eq
  intro i
  rw [Nat.testBit_and, show (61440 : Nat) = (2 ^ 4 - 1) <<< 12 from rfl, Nat.testBit_shiftLeft, Nat.testBit_two_pow_sub_one,
    show n / 4096 * 4096 = (n >>> 12) <<< 12 from by rw [Nat.shiftLeft_eq, Nat.shiftRight_eq_div_pow], Nat.testBit_shiftLeft, Nat.testBit_shiftRight]
  by_cases c : 12 ≤ i
  · have e : 12 + (i - 12) = i := by omega
    rw [e]
    by_cases d : i - 12 < 4
    · simp [c, d]
    · have z : n.testBit i = false := Nat.testBit_lt_two_pow (Nat.lt_of_lt_of_le h (Nat.pow_le_pow_right (n := 2) (by decide) (show 16 ≤ i by omega)))
      simp [z]
  · simp [c]
theorem modeAt_nat (x : Int) : ∃ n : Nat, modeAt x = (n : Int) ∧ n < 65536 := by
  have h1 := Int.fmod_nonneg_of_pos (x.fdiv 8) (by decide : (0 : Int) < 4096)
  have h2 := Int.fmod_lt_of_pos (x.fdiv 8) (by decide : (0 : Int) < 4096)
  have h : ∀ i : Nat, 0 ≤ ([8, 8, 8, 4, 12, 10, 0, 9] : List Int).getD i 0 ∧ ([8, 8, 8, 4, 12, 10, 0, 9] : List Int).getD i 0 ≤ 12 := by
    intro i
    match i with
    | 0 | 1 | 2 | 3 | 4 | 5 | 6 | 7 => decide
    | i + 8 => simp
  obtain ⟨a, b⟩ := h (x.fmod 8).toNat
  refine ⟨(modeAt x).toNat, ?_, ?_⟩
  · unfold modeAt; omega
  · unfold modeAt; omega
theorem isF_mode (x : Int) : isF (modeAt x) = decide ((modeAt x).fdiv 4096 = 8) := by
  obtain ⟨n, e, h⟩ := modeAt_nat x
  rw [e]
  have e1 : Builtin.bitAnd ((n : Nat) : Int) 61440 = ((n &&& 61440 : Nat) : Int) := rfl
  have e2 : ((n : Nat) : Int).fdiv 4096 = ((n / 4096 : Nat) : Int) := by
    rw [Int.fdiv_eq_ediv_of_nonneg _ (by decide)]; rfl
  unfold isF
  rw [e1, e2, and_hi n h]
  by_cases c : n / 4096 = 8
  · rw [c]; decide
  · have c1 : ¬ (((n / 4096 : Nat) : Int) = 8) := by omega
    have c2 : ¬ (((n / 4096 * 4096 : Nat) : Int) = 32768) := by omega
    rw [decide_eq_false c1]
    exact beq_eq_false_iff_ne.mpr c2
theorem mod_tab : ∀ y ∈ MS3, ∀ m ∈ modL, (m == y || dotF m y) = hitM m y ∧ (takesF (partsF (escM y ++ Str.ofString "")).1 (partsF (escM y ++ Str.ofString "")).2 m || takesF (partsF (escM y ++ Str.ofString ".*")).1 (partsF (escM y ++ Str.ofString ".*")).2 m) = hitM m y := by decide +kernel
theorem fold_tab : ∀ y ∈ FS2, ∀ n ∈ namL, slF n (dirF y) = hitF n y ∧ takesF (partsF (foldP y)).1 (partsF (foldP y)).2 n = hitF n y := by decide +kernel
theorem any_row (f : List Str × Bool → Bool) : ∀ ms : List Str, ((rowF ms).map partsF).any f = ms.any fun y => f (partsF (escM y ++ Str.ofString "")) || f (partsF (escM y ++ Str.ofString ".*"))
  | [] => rfl
  | y :: r => by
    have ih := any_row f r
    unfold rowF at ih ⊢
    simp only [List.flatMap_cons, List.map_append, List.any_append, ih, List.any_cons, List.map_cons, List.map_nil, List.any_nil, Bool.or_false]
theorem any_congr {α : Type} {l : List α} {f g : α → Bool} (h : ∀ y ∈ l, f y = g y) : l.any f = l.any g := by
  induction l with
  | nil => rfl
  | cons y r ih => rw [List.any_cons, List.any_cons, h y (.head _), ih fun z hz => h z (.tail _ hz)]
theorem pat_plain {ms fs : List Str} (hms : ∀ y ∈ ms, y ∈ MS3) (hfs : ∀ y ∈ fs, y ∈ FS2) {m n : Str} (hm : m ∈ modL) (hn : n ∈ namL) : patF ((rowF ms).map partsF) ((fs.map foldP).map partsF) m n = plainF ms fs m (some n) := by
  have e1 : (((rowF ms).map partsF).any fun p => takesF p.1 p.2 m) = ms.any (hitM m) := by
    rw [any_row]
    exact any_congr fun y hy => (mod_tab y (hms y hy) m hm).2
  have e2 : (((fs.map foldP).map partsF).any fun p => takesF p.1 p.2 n) = fs.any (hitF n) := by
    rw [List.any_map, List.any_map]
    exact any_congr fun y hy => (fold_tab y (hfs y hy) n hn).2
  unfold patF plainF
  rw [e1, e2]
  split
  · rfl
  · dsimp only
    cases ms.any (hitM m) <;> cases fs.any (hitF n) <;> rfl
theorem fresh_plain {ms fs : List Str} (hms : ∀ y ∈ ms, y ∈ MS3) (hfs : ∀ y ∈ fs, y ∈ FS2) {m n : Str} (hm : m ∈ modL) (hn : n ∈ namL) (hs : ¬ m = Str.ofString "<string>") : freshF ms (fs.map dirF) (some n) m = plainF ms fs m (some n) := by
  have e1 : ms.any (hitM m) = (decide (m ∈ ms) || ms.any fun y => dotF m y) := by
    have : ms.any (hitM m) = ms.any fun y => m == y || dotF m y := any_congr fun y hy => (mod_tab y (hms y hy) m hm).1.symm
    rw [this, Bool.eq_iff_iff]
    simp only [List.any_eq_true, Bool.or_eq_true, decide_eq_true_eq, beq_iff_eq]
    constructor
    · rintro ⟨y, hy, rfl | h⟩
      · exact .inl hy
      · exact .inr ⟨y, hy, h⟩
    · rintro (h | ⟨y, hy, h⟩)
      · exact ⟨m, h, .inl rfl⟩
      · exact ⟨y, hy, .inr h⟩
  have e2 : ((fs.map dirF).any fun y => slF n y) = fs.any (hitF n) := by
    rw [List.any_map]
    exact any_congr fun y hy => (fold_tab y (hfs y hy) n hn).1
  have hs' : (m == Str.ofString "<string>") = false := beq_eq_false_iff_ne.mpr hs
  have hA : freshF ms (fs.map dirF) (some n) m = if (decide (m ∈ ms) || ms.any fun y => dotF m y) = true then 1 else if fs.any (hitF n) = true then 1 else 0 := by
    unfold freshF
    dsimp only
    rw [e2]
    by_cases c : m ∈ ms
    · simp only [c, if_true, decide_true, Bool.true_or]
    · simp only [c, if_false, decide_false, Bool.false_or]
  rw [hA, ← e1]
  unfold plainF
  rw [hs']
  rfl
theorem fresh_none (ms fs : List Str) (m : Str) : freshF ms fs none m = 1 := by
  unfold freshF; split
  · rfl
  · split <;> rfl
theorem plain_none (ms fs : List Str) (m : Str) : plainF ms fs m none = 1 := by unfold plainF; split <;> rfl
theorem plain_string (ms fs : List Str) (n : Option Str) : plainF ms fs (Str.ofString "<string>") n = 1 := by unfold plainF; rw [if_pos (beq_self_eq_true _)]
end
section
/-- a goal that the walk leaves -/
noncomputable def Stop (p : Prop) : Prop := p
theorem stop_in {p : Prop} (h : Stop p) : p := h
theorem stop_out {p : Prop} (h : p) : Stop p := h
theorem news_ne {h₀ h : Heap} {L : Addr} {news : List (Addr × Obj)} (N : News h₀ L h news) {a b : Addr} {o o' : Obj} (ha : (a, o) ∈ news) (hb : (b, o') ∈ news) (hne : o.cls ≠ o'.cls) : a ≠ b := by
  rintro rfl
  exact hne (congrArg Obj.cls (Option.some.inj ((N _ ha).1.symm.trans (N _ hb).1)))
theorem news_add {h₀ h : Heap} {L : Addr} {news : List (Addr × Obj)} (N : News h₀ L h news) {a : Addr} {o : Obj} (hm : (a, o) ∈ news) : News h₀ L h ((a, o) :: news) := fun p hp => by
  rcases List.mem_cons.mp hp with rfl | hp
  · exact N _ hm
  · exact N p hp
/-- no entry of l lies at d: kept shut while the walk looks for facts -/
@[irreducible] def Off (l : List (Addr × Obj)) (d : Addr) : Prop := ∀ p ∈ l, p.1 ≠ d
theorem Off.mk {l : List (Addr × Obj)} {d : Addr} (h : ∀ p ∈ l, p.1 ≠ d) : Off l d := by unfold Off; exact h
theorem Off.get {l : List (Addr × Obj)} {d : Addr} (h : Off l d) : ∀ p ∈ l, p.1 ≠ d := by unfold Off at h; exact h
theorem len63 {ns : List Int} (h : ¬ ((63 : Nat) : Int) < (ns.length : Int)) : ns.length ≤ 63 := by omega
theorem ConH.use {b : Nat} {w : World} {f : Addr} {args : List Value} {news : List (Addr × Obj)} {Pre : Heap → Prop} {Post : Value → List (Addr × Obj) → Prop} (C : ConH b w f args news Pre Post)
  {A : Around} {dp un : Nat} {gd : Option (List Code)} {cn : Str} {cs : Scope} {a : Addr} {ccd : Value} {cl : List (Str × Addr)} {outer : List Env} {A₀ : Around} {base h₀ : Heap} {L : Addr} {m : Str → Option Value} {s : Shared} {Q E : Value → Shared → Prop}
  {mean : ExcName → Option Value} {mg mb : Str → Option Value} (F : Fr h₀ L s.heap m) (N : News h₀ L s.heap news) (eA : A = ktrTop dp un gd cn cs L a ccd cl outer) (hdp : dp ≤ b) (hun : un ≤ b)
  (B : Below A₀ base outer h₀) (X : (hd.heap_1 w.params).In h₀) (T : Top topProg TL mean mg mb h₀) (hk : cs.kind = .function) (hPre : Pre h₀)
  (hQ : ∀ v news' h' tk', Post v news' → Fr h₀ L h' m → News h₀ L h' news' → Q v { s with heap := h', toks := tk' }) : wpAny (model P w) A (call (.ref f) args) Q E s := by
  subst eA
  exact C dp un hdp hun gd cn cs a ccd cl outer A₀ base h₀ L m s Q E mean mg mb B F X N T hk hPre hQ
theorem ConD.use {b : Nat} {w : World} {f : Addr} {args : List Value} {news : List (Addr × Obj)} {Post : Value → List (Addr × Obj) → Prop} (C : ConD b w f args news Post)
  {A : Around} {dp un : Nat} {gd : Option (List Code)} {cn : Str} {cs : Scope} {a : Addr} {ccd : Value} {cl : List (Str × Addr)} {outer : List Env} {A₀ : Around} {base h₀ : Heap} {L : Addr} {m : Str → Option Value} {s : Shared} {Q E : Value → Shared → Prop}
  {mean : ExcName → Option Value} {mg mb : Str → Option Value} (F : Fr h₀ L s.heap m) (N : News h₀ L s.heap news) (eA : A = ktrTop dp un gd cn cs L a ccd cl outer) (hdp : dp ≤ b) (hun : un ≤ b)
  (B : Below A₀ base outer h₀) (X : (hd.heap_1 w.params).In h₀) (T : Top topProg TL mean mg mb h₀) (hk : cs.kind = .function)
  (hQ : ∀ v news' h' tk' d', Post v news' → Fr h₀ L h' m → News h₀ L h' news' → Q v { s with heap := h', toks := tk', drawn := d' }) : wpAny (model P w) A (call (.ref f) args) Q E s := by
  subst eA
  exact C dp un hdp hun gd cn cs a ccd cl outer A₀ base h₀ L m s Q E mean mg mb B F X N T hk hQ
section
variable {prog : Program} {w : World} {A : Around} {E Q : Value → Shared → Prop} {s : Shared} {h₀ : Heap} {L : Addr} {news : List (Addr × Obj)}
theorem ne_bools {a b : Addr} {x y z u : Bool} {n n' : Nat} (N : News h₀ L s.heap news) (ha : (a, W.listOf (List.toArray [.bool x, .bool y]) n) ∈ news) (hb : (b, W.listOf (List.toArray [.bool z, .bool u]) n') ∈ news) (e1 : x = z) (e2 : y = u) (hu : A.units + 64 < cLine) (h : Q (.bool false) s) : wpAny (model prog w) A (compareOp .NotEq (.ref a) (.ref b)) Q E s := by
  subst e1 e2
  refine ne_dataH (reads_list_at (News.get N ha) rfl rfl (.cons (.bool _) (.cons (.bool _) .nil))) (reads_list_at (News.get N hb) rfl rfl (.cons (.bool _) (.cons (.bool _) .nil))) ?_ ?_ hu ?_
  · cases x <;> cases y <;> decide
  · cases x <;> cases y <;> decide
  · have : PyData.eqv (.list [.bool x, .bool y]) (.list [.bool x, .bool y]) = true := by cases x <;> cases y <;> decide
    rw [this]; exact h
theorem ne_ints2 {a b : Addr} {x y z u : Int} {t1 t2 t3 t4 : Tok} {n n' : Nat} (N : News h₀ L s.heap news) (ha : (a, W.listOf (List.toArray [.int x t1, .int y t2]) n) ∈ news) (hb : (b, W.listOf (List.toArray [.int z t3, .int u t4]) n') ∈ news) (e1 : x = z) (e2 : y = u) (hu : A.units + 64 < cLine) (h : Q (.bool false) s) : wpAny (model prog w) A (compareOp .NotEq (.ref a) (.ref b)) Q E s := by
  subst e1 e2
  refine ne_dataH (reads_list_at (News.get N ha) rfl rfl (.cons (.int _ _) (.cons (.int _ _) .nil))) (reads_list_at (News.get N hb) rfl rfl (.cons (.int _ _) (.cons (.int _ _) .nil))) ?_ ?_ hu ?_
  · rfl
  · rfl
  · have : PyData.eqv (.list [.int x, .int y]) (.list [.int x, .int y]) = true := by simp [PyData.eqv, PyData.eqvAll]
    rw [this]; exact h
end
/-- the law's names while its loop runs -/
noncomputable abbrev lawM (am af sv : Addr) (t6 : Tok) (kx td : Addr) (u : Str → Option Value) : Str → Option Value := fun z =>
  if z = Str.ofString "told" then some (.ref td) else if z = Str.ofString "keeper" then some (.ref kx) else if z = Str.ofString "star" then some (.str (Str.ofString "many") t6) else if z = Str.ofString "sieves" then some (.ref sv) else if z = Str.ofString "folders" then some (.ref af) else if z = Str.ofString "modules" then some (.ref am) else u z
theorem lawM_of {am af sv : Addr} {t6 : Tok} {kx td : Addr} {m : Str → Option Value} (h1 : m (Str.ofString "told") = some (.ref td)) (h2 : m (Str.ofString "keeper") = some (.ref kx)) (h3 : m (Str.ofString "star") = some (.str (Str.ofString "many") t6)) (h4 : m (Str.ofString "sieves") = some (.ref sv)) (h5 : m (Str.ofString "folders") = some (.ref af)) (h6 : m (Str.ofString "modules") = some (.ref am)) : m = lawM am af sv t6 kx td m := by
  funext z
  unfold lawM
  by_cases e : z = Str.ofString "told"
  · rw [if_pos e, e]; exact h1
  rw [if_neg e]
  by_cases e : z = Str.ofString "keeper"
  · rw [if_pos e, e]; exact h2
  rw [if_neg e]
  by_cases e : z = Str.ofString "star"
  · rw [if_pos e, e]; exact h3
  rw [if_neg e]
  by_cases e : z = Str.ofString "sieves"
  · rw [if_pos e, e]; exact h4
  rw [if_neg e]
  by_cases e : z = Str.ofString "folders"
  · rw [if_pos e, e]; exact h5
  rw [if_neg e]
  by_cases e : z = Str.ofString "modules"
  · rw [if_pos e, e]; exact h6
  rw [if_neg e]
/-- what the keeper holds beside what was told -/
noncomputable def Link (fk ft : Str → Option Int) : Prop := (∀ z, fk z = if z = Str.ofString "<string>" then some 1 else ft z) ∧ ∀ r, ft (Str.ofString "<string>") = some r → r = 1
theorem link_start : Link (fun z => if z = Str.ofString "<string>" then some 1 else none) (fun _ => none) := ⟨fun z => rfl, fun r h => by cases h⟩
/-- the fixed part of the law's ledger -/
noncomputable abbrev lawR (w : World) (cl5 am5 af5 sv6 s0 s1 kx kdx ksm kdl kig : Addr) (tv5 kds : List Value) (n5 k6 n15 n25 : Nat) (vs5 us5 : List Value) (kso o6 : Obj) (ka kb kc : Tok) (tl : List (Addr × Obj)) : List (Addr × Obj) :=
  (kdl, lst kds kds.length) :: (ksm, kso) :: (kx, instObj 103 kdx) :: (kdx, dxObj w ka kb kc ksm kdl kig) :: (cl5, lst tv5 n5) :: (sv6, lst [.ref s0, .ref s1] k6) :: (126, o6) :: (af5, lst us5 n25) :: (am5, lst vs5 n15) :: tl
noncomputable def LawJ (w : World) (am5 af5 sv6 : Addr) (t6 : Tok) (kx td kig : Addr) (R tps : List (Addr × Obj)) (r : List Value) (m : Str → Option Value) (nw : List (Addr × Obj)) : Prop :=
  ∃ oig otd kvk kvt fk ft u dn rest, m = lawM am5 af5 sv6 t6 kx td u ∧ nw = (kig, oig) :: (td, otd) :: R ∧ oig.IsDictOf (PySem.strKind P w) kvk ∧ DRel kvk fk ∧ otd.IsDictOf (PySem.strKind P w) kvt ∧ DRel kvt ft ∧
    kvk.length ≤ dn + 1 ∧ kvt.length ≤ dn ∧ dn + rest.length ≤ 13 ∧ Link fk ft ∧ TupsIn tps r rest
theorem drel_nil : DRel [] (fun _ => none) := fun z => ⟨fun _ => rfl, fun r h => by cases h⟩
theorem drel_one {k : Str} {r : Int} {t : Tok} : DRel [(k, Value.int r t)] (fun z => if z = k then some r else none) := by
  have := drel_set (t := t) (r := r) (k := k) drel_nil rfl
  rw [stored_absent rfl] at this
  exact this
/-- the tuples of a ledger -/
noncomputable def tupsOf (nw : List (Addr × Obj)) : List (Addr × Obj) := open Classical in nw.filter fun p => decide (p.2.cls = .type "tuple")
theorem tupsOf_sub {nw : List (Addr × Obj)} : ∀ p ∈ tupsOf nw, p ∈ nw ∧ p.2.cls = .type "tuple" := fun p hp => by
  unfold tupsOf at hp
  have := List.mem_filter.mp hp
  exact ⟨this.1, of_decide_eq_true this.2⟩
theorem TupsIn.tups {nw : List (Addr × Obj)} : ∀ {vs : List Value} {xs : List Int}, TupsIn nw vs xs → TupsIn (tupsOf nw) vs xs
  | _, _, .nil => .nil
  | _, _, .cons T x t1 t2 t3 vs xs m r => .cons T x t1 t2 t3 vs xs (by unfold tupsOf; exact List.mem_filter.mpr ⟨m, decide_eq_true rfl⟩) r.tups
theorem TupsIn.refs {nw : List (Addr × Obj)} : ∀ {vs : List Value} {xs : List Int}, TupsIn nw vs xs → ∀ v ∈ vs, ∃ T, v = Value.ref T
  | _, _, .nil, _, h => by cases h
  | _, _, .cons T x t1 t2 t3 vs xs m r, v, h => by
    rcases List.mem_cons.mp h with rfl | h
    · exact ⟨T, rfl⟩
    · exact r.refs v h
theorem isDict_cls {w : World} {o : Obj} {kvs : List (Str × Value)} (h : o.IsDictOf (PySem.strKind P w) kvs) : o.cls = .type "dict" := by
  obtain ⟨es, ep, hx, _⟩ := h
  exact hx.1
theorem rows_two {star : Str} {nw : List (Addr × Obj)} {ys : List Value} {ms fs : List Str} (h : RowsIn star nw ys (rowsF ms fs)) : ∃ s0 s1 k0 k1 vs0 vs1, ys = [.ref s0, .ref s1] ∧ (s0, lst vs0 k0) ∈ nw ∧ (s1, lst vs1 k1) ∈ nw ∧ PartsIn star nw vs0 ((rowF ms).map partsF) ∧ PartsIn star nw vs1 ((fs.map foldP).map partsF) := by
  unfold rowsF at h
  cases h with
  | cons s k vs ps r pr m hp q =>
    cases q with
    | cons s' k' vs' ps' r' pr' m' hp' q' =>
      cases q'
      exact ⟨s, s', k, k', vs, vs', rfl, m, m', hp, hp'⟩
theorem part_tab : ∀ p ∈ Pats, ∀ x ∈ (partsF p).1, Small x ∧ (x == Str.ofString "many") = false ∧ 1 ≤ x.length := by decide +kernel
theorem row_len {ms : List Str} : ((rowF ms).map partsF).length = 2 * ms.length := by
  rw [List.length_map]
  induction ms with
  | nil => rfl
  | cons y r ih =>
    have : rowF (y :: r) = (escM y ++ Str.ofString "") :: (escM y ++ Str.ofString ".*") :: rowF r := rfl
    rw [this, List.length_cons, List.length_cons, ih, List.length_cons]; omega
theorem row_ok {ms : List Str} (hms : ∀ y ∈ ms, y = Str.ofString "cmp" ∨ y = Str.ofString "a[b]" ∨ y = Str.ofString "x*") : ∀ p ∈ (rowF ms).map partsF, ∀ x ∈ p.1, Small x ∧ (x == Str.ofString "many") = false ∧ 1 ≤ x.length := fun p hp x hx => by
  obtain ⟨q, hq, rfl⟩ := List.mem_map.mp hp
  exact part_tab q (row_pats hms q hq) x hx
theorem fold_ok {fs : List Str} (hfs : ∀ x ∈ fs, x = D1 ∨ x = D2) : ∀ p ∈ (fs.map foldP).map partsF, ∀ x ∈ p.1, Small x ∧ (x == Str.ofString "many") = false ∧ 1 ≤ x.length := fun p hp x hx => by
  obtain ⟨q, hq, rfl⟩ := List.mem_map.mp hp
  exact part_tab q (fold_pats hfs q hq) x hx
theorem ne_same {prog : Program} {w : World} {A : Around} {E Q : Value → Shared → Prop} {s : Shared} {x y : Int} {t u : Tok} (e : x = y) (h : Q (.bool false) s) : wpAny (model prog w) A (compareOp .NotEq (.int x t) (.int y u)) Q E s := by
  subst e
  refine PyProof.Rows.ne_int ?_
  rw [show (x != x) = false from by simp]
  exact h
theorem turn_link {fk ft fk' ft' : Str → Option Int} {mo : Str} {r pv fresh : Int} (hL : Link fk ft) (hk : (fk mo = some r ∧ fk' = fk) ∨ (fk mo = none ∧ r = fresh ∧ fk' = fun z => if z = mo then some r else fk z))
    (ht : ((ft mo).isSome = true ∧ ft' = ft) ∨ (ft mo = none ∧ ft' = fun z => if z = mo then some pv else ft z)) (hfr : ¬ mo = Str.ofString "<string>" → fresh = pv) (hps : mo = Str.ofString "<string>" → pv = 1) : Link fk' ft' ∧ (ft mo).getD pv = r := by
  obtain ⟨h1, h2⟩ := hL
  by_cases c : mo = Str.ofString "<string>"
  · have e1 := h1 mo
    rw [if_pos c] at e1
    rcases hk with ⟨a, rfl⟩ | ⟨a, _, _⟩
    · rw [a] at e1
      obtain rfl : r = 1 := Option.some.inj e1
      rcases ht with ⟨b, rfl⟩ | ⟨b, rfl⟩
      · obtain ⟨q, hq⟩ := Option.isSome_iff_exists.mp b
        have := h2 q (c ▸ hq)
        rw [hq, this]
        exact ⟨⟨h1, h2⟩, rfl⟩
      · rw [b, hps c]
        refine ⟨⟨fun z => ?_, fun q hq => ?_⟩, rfl⟩
        · rw [h1 z, c]
          by_cases d : z = Str.ofString "<string>"
          · rw [if_pos d, if_pos d]
          · rw [if_neg d, if_neg d]; exact (if_neg d).symm
        · dsimp only at hq
          rw [if_pos c.symm] at hq
          exact (Option.some.inj hq).symm
    · rw [a] at e1; cases e1
  · have e1 := h1 mo
    rw [if_neg c] at e1
    have c' : ¬ Str.ofString "<string>" = mo := fun q => c q.symm
    rcases hk with ⟨a, rfl⟩ | ⟨a, rfl, rfl⟩
    · rw [a] at e1
      rcases ht with ⟨b, rfl⟩ | ⟨b, rfl⟩
      · rw [← e1]; exact ⟨⟨h1, h2⟩, rfl⟩
      · rw [b] at e1; cases e1
    · rw [a] at e1
      rcases ht with ⟨b, rfl⟩ | ⟨b, rfl⟩
      · rw [← e1] at b; cases b
      · rw [hfr c, b]
        refine ⟨⟨fun z => ?_, fun q hq => ?_⟩, rfl⟩
        · dsimp only
          by_cases d : z = mo
          · rw [if_pos d, if_neg (fun q => c (d ▸ q)), if_pos d]
          · rw [if_neg d, if_neg d]; exact h1 z
        · dsimp only at hq
          rw [if_neg c'] at hq
          exact h2 q hq
theorem fresh_r {x : Int} {ms' : List Str} {file : Option Str} {mo : Str} {r pv : Int} {f' : Str → Option Int} (h : ((fun z => if z = Str.ofString "<string>" then some (1 : Int) else none) mo = some r ∧ f' = fun z => if z = Str.ofString "<string>" then some (1 : Int) else none) ∨ ((fun z => if z = Str.ofString "<string>" then some (1 : Int) else none) mo = none ∧ r = freshF (modsF x) ms' file mo ∧ f' = fun z => if z = mo then some r else (fun z => if z = Str.ofString "<string>" then some (1 : Int) else none) z))
    (hfr : ¬ mo = Str.ofString "<string>" → freshF (modsF x) ms' file mo = pv) (hps : mo = Str.ofString "<string>" → pv = 1) : r = pv := by
  by_cases c : mo = Str.ofString "<string>"
  · rcases h with ⟨a, _⟩ | ⟨a, _⟩
    · dsimp only at a
      rw [if_pos c] at a
      rw [hps c]; exact (Option.some.inj a).symm
    · dsimp only at a
      rw [if_pos c] at a; cases a
  · rcases h with ⟨a, _⟩ | ⟨_, rfl, _⟩
    · dsimp only at a
      rw [if_neg c] at a; cases a
    · exact hfr c
end
section
example : True := by
  k_with_none
  w_top off
  (k_with "k_room" => (first | exact room_of (by assumption) 0 rfl | exact room_of (by assumption) 1 rfl | exact room_of (by assumption) 2 rfl | exact room_of (by assumption) 3 rfl | exact room_of (by assumption) 4 rfl | exact room_of (by assumption) 5 rfl | exact room_of (by assumption) 6 rfl))
  (k_with "my enter" => ((first
    | (refine' code_def ?k1 ?k2 ?k3 ?k4 ?k5 ?kA ?kF ?kK ?k6 ?k7 ?k8 ?k9 ?kB ?_ ?c2 ?c3 ?c4 ?c5; (case kA => exact rfl); (case kF => exact rfl); (case kK => first | exact rfl | assumption); (case k1 => k_asm); (case k2 => k_asm); (case k3 => k_asm); (case k4 => k_asm); (case k5 => k_asm); (case k6 => k_is); (case k7 => k_is); (case k8 => k_room); (case k9 => first | exact BindsTo.of_eq rfl | exact binds_K (by k_in) rfl (by k_is) rfl rfl rfl | fail "k_enter: no rule for these arguments"); (case c5 => decide); (case kB => exact locs rfl); (case c2 => exact rfl); (case c3 => exact rfl); (case c4 => exact rfl); k_whole; intro g' L' h' FG' F' N' B' X' T'; (try dsimp only); (try k_lift B'); (try k_fold))
    | (refine' code_defC ?k1 ?k2 ?k3 ?k4 ?k5 ?kA ?kF ?kK ?k6 ?k7 ?k8 ?k9 ?kB ?kD ?_ ?c2 ?c3 ?c4; (case kA => exact rfl); (case kF => exact rfl); (case kK => first | exact rfl | assumption); (case k1 => k_asm); (case k2 => k_asm); (case k3 => k_asm); (case k4 => k_asm); (case k5 => k_asm); (case k6 => k_is); (case k7 => k_is); (case k8 => k_room); (case k9 => first | exact BindsTo.of_eq rfl | exact binds_K (by k_in) rfl (by k_is) rfl rfl rfl | fail "k_enter: no rule for these arguments"); (case kB => exact rfl); (case kD => decide +kernel); (case c2 => exact rfl); (case c3 => exact rfl); (case c4 => exact rfl); k_whole; intro g' L' h' tk' cells' FG' F' N' Y' B' X' T' l1; (try k_lt l1); k_cells Y'; (try simp only [List.cons_append, List.nil_append] at N'); (try dsimp only); (try k_lift B'); (try k_fold)))))
  (k_with "call builtin:len" => (((with_reducible show wpAny _ _ (call (Value.builtin _) [Value.str _ _]) _ _ _); refine len_str (by omega) ?_)))
  (k_with "SearchPost" => (((with_reducible show SearchPost _ _ _ _ _ _ _ _ _ (Flow.ret _) _); dsimp only [SearchPost])))
  (k_with "execs cons" => ((k_here; (with_reducible show wpAny _ _ _ _ _ (Shared.mk _ _ _ (_ + _) _)); refine gentoks 1 (by first | omega | (dsimp only; omega)) ?_; intro _ _)))
  (k_with "execs nil" => ((k_here; (with_reducible show wpAny _ _ _ _ _ (Shared.mk _ _ _ (_ + _) _)); refine gentoks 1 (by first | omega | (dsimp only; omega)) ?_; intro _ _)))
  (k_with "my sub" => (first | exact fun _ h => h | exact fun _ h => List.mem_cons_of_mem _ h | exact fun _ h => List.mem_cons_of_mem _ (List.mem_cons_of_mem _ h) | exact fun _ h => List.mem_cons_of_mem _ (List.mem_cons_of_mem _ (List.mem_cons_of_mem _ h))))
  (k_with "k_all" => (first | assumption | exact off_of (by assumption) (by omega)))
  (k_with "my le" => (first | exact le_of 0 rfl (by assumption) | exact le_of 1 rfl (by assumption) | exact le_of 2 rfl (by assumption) | exact le_of 3 rfl (by assumption) | exact le_of 6 rfl (by assumption) | exact le_of 4 rfl (by assumption) | exact le_of 5 rfl (by assumption)))
  (k_with "call ref" => ((k_here; (with_reducible show wpAny _ _ (call (Value.ref 190) [Value.int _ _]) _ _ _); refine stop_in ?_)))
  (k_with "call ref" => ((k_here; (with_reducible show wpAny _ _ (call (Value.ref 190) [Value.int _ _]) _ _ _); (rename Fr _ _ _ _ => lF'); (rename News _ _ _ _ => lN'); refine wpAny_with_toks (n := 1) (by first | omega | (dsimp only; omega)) ?_; k_dflt (refine (known_con _ _ _ _).use lF' lN' (by with_unfolding_all rfl) (by decide) (by decide) (by assumption) (by assumption) (by assumption) (by rfl)  ?_); clear lF' lN'; intro v' news' h' tk' hp' F' N'; intro htk5; (obtain ⟨tp5, am5, af5, vs5, us5, n15, n25, e1', e2', hvs5, hus5⟩ := hp'; subst e1' e2'))))
  (k_with "call ref" => ((k_here; (with_reducible show wpAny _ _ (call (Value.ref 214) _) _ _ _); refine stop_in ?_)))
  (k_with "exec For Tuple Call cons nil" => ((k_here; refine stop_in ?_)))
  (k_with "call ref" => ((k_here; (with_reducible show wpAny _ _ (call (Value.ref 103) _) _ _ _); refine stop_in ?_)))
  (k_with "call ref" => ((k_here; (with_reducible show wpAny _ _ (call (Value.ref 100) _) _ _ _); refine stop_in ?_)))
  (k_with "call ref" => ((k_here; (with_reducible show wpAny _ _ (call (Value.ref 224) _) _ _ _); refine stop_in ?_)))
  (k_with "eval Dict nil nil" => ((k_here; refine stop_in ?_)))
  (k_with "call builtin:dict.setdefault" => ((k_here; refine stop_in ?_)))
  (k_with "k_mem" => (first | exact List.Mem.head _ | (refine' List.Mem.tail _ ?_; k_mem) | assumption))
  (k_with "call ref" => ((k_here; (with_reducible show wpAny _ _ (call (Value.ref 197) [Value.ref _]) _ _ _); refine stop_in ?_)))
  (k_with "call ref" => ((k_here; (with_reducible show wpAny _ _ (call (Value.ref 197) [Value.ref _]) _ _ _); (rename Fr _ _ _ _ => lF'); (rename News _ _ _ _ => lN'); k_dflt (refine (calls_con _ _ _ _ _ hI hl63).use lF' lN' (by with_unfolding_all rfl) (by decide) (by decide) (by assumption) (by assumption) (by assumption) (by rfl) lifted ?_); clear lF' lN'; intro v' news' h' tk' hp' F' N'; (obtain ⟨cl5, tv5, n5, tps, e1', e2', hT5, htl5⟩ := hp'; subst e1' e2'))))
  (k_with "call ref" => ((k_here; (with_reducible show wpAny _ _ (call (Value.ref 145) [Value.int _ _]) _ _ _); refine stop_in ?_)))
  (k_with "call ref" => ((k_here; (with_reducible show wpAny _ _ (call (Value.ref 145) [Value.int _ _]) _ _ _); (rename Fr _ _ _ _ => lF'); (rename News _ _ _ _ => lN'); k_dflt (refine (isreg_con _ _ _ _).use lF' lN' (by with_unfolding_all rfl) (by decide) (by decide) (by assumption) (by assumption) (by assumption) (by rfl)  ?_); clear lF' lN'; intro v' news' h' tk' hp' F' N'; (obtain ⟨e1', e2'⟩ := hp'; subst e1'; rw [show (Builtin.bitAnd ((mdn : Nat) : Int) 61440 == 32768) = _ from hb] at e2'; subst e2'))))
  (k_with "call ref" => ((k_here; (with_reducible show wpAny _ _ (call (Value.ref 185) [Value.int _ _]) _ _ _); refine stop_in ?_)))
  (k_with "call ref" => ((k_here; (with_reducible show wpAny _ _ (call (Value.ref 185) [Value.int _ _]) _ _ _); (rename Fr _ _ _ _ => lF'); (rename News _ _ _ _ => lN'); k_dflt (refine (fm_con _ _ _ _).use lF' lN' (by with_unfolding_all rfl) (by decide) (by decide) (by assumption) (by assumption) (by assumption) (by rfl)  ?_); clear lF' lN'; intro v' news' h' tk' hp' F' N'; (obtain ⟨e1', y9, ty9, e2', hy1, hy2, hy3⟩ := hp'; subst e1' e2'; rw [hb] at hy3))))
  (k_with "binaryOp Mult ref int" => ((k_here; (rename Fr _ _ _ _ => lF'); (rename News _ _ _ _ => lN'); k_dflt (refine' KMa.mul (vs := [_]) (ws := [_, _]) lF' lN' (isl_of lN' (.head _)) (by decide) (by decide) (by show 1 * 2 ≤ 256; decide) rfl ?_); clear lF' lN'; intro D7 h7 F7 N7 l7; (try k_lt l7))))
  (k_with "compareOp NotEq ref ref" => ((k_here; refine stop_in ?_)))
  (k_with "ite" => ((k_dflt (first | refine ite_pos hdv ?_ | refine ite_neg (fun e => by rw [hdv] at e; cases e) ?_))))
  (k_with "call ref" => ((k_here; (with_reducible show wpAny _ _ (call (Value.ref 204) [Value.ref _, Value.ref _, Value.str _ _, Value.none]) _ _ _); refine stop_in ?_)))
  (k_with "call ref" => ((k_here; (with_reducible show wpAny _ _ (call (Value.ref 204) [Value.ref _, Value.ref _, Value.str _ _, Value.none]) _ _ _); (rename Fr _ _ _ _ => lF'); (rename News _ _ _ _ => lN'); k_dflt (refine (plain_con0 _ am5 af5 (modsF x5) (fldsF x5) _ _ _ hmoS).use lF' lN' (by with_unfolding_all rfl) (by decide) (by decide) (by assumption) (by assumption) (by assumption) (by rfl)  ?_); clear lF' lN'; intro v' news' h' tk' hp' F' N'; (obtain ⟨e1', tp9, e2'⟩ := hp'; subst e1' e2'))))
  (k_with "compareOp NotEq int int" => ((k_here; refine stop_in ?_)))
  (k_with "GrownAll" => ((refine stop_in ?_)))
  (k_with "call ref" => ((k_here; (with_reducible show wpAny _ _ (call (Value.ref 204) [Value.ref _, Value.ref _, Value.str _ _, Value.str _ _]) _ _ _); refine stop_in ?_)))
  (k_with "call ref" => ((k_here; (with_reducible show wpAny _ _ (call (Value.ref 204) [Value.ref _, Value.ref _, Value.str _ _, Value.str _ _]) _ _ _); (rename Fr _ _ _ _ => lF'); (rename News _ _ _ _ => lN'); k_dflt (refine (plain_con _ am5 af5 n15 n25 vs5 us5 _ _ _ _ _ _ _ (by k_mem) (by k_mem) hvs5 hus5 mods_small flds_or hmoS hnmS).use lF' lN' (by with_unfolding_all rfl) (by decide) (by decide) (by assumption) (by assumption) (by assumption) (by rfl)  ?_); clear lF' lN'; intro v' news' h' tk' hp' F' N'; (obtain ⟨e1', tp9, e2'⟩ := hp'; subst e1' e2'))))
  trivial
theorem law_holds : PySem.Challenge.rw_ik0038_01.Holds := by
  refine hd ⟨left, ?_⟩
  k_go0
  all_goals try k_fold
  rename IntsAre _ _ => hI
  rename World => ww
  have hl63 := len63 (by assumption)
  k_steps
  refine stop_out ?_
  generalize (List.getD _ _ _ : Int) = x5 at hvs5 hus5
  (rename Fr _ _ _ _ => F1); (rename News _ _ _ _ => N1)
  have h126 : ∀ p ∈ ([(af5, lst us5 n25), (am5, lst vs5 n15)] : List (Addr × Obj)), p.1 ≠ 126 := by
    intro p hp
    simp only [List.mem_cons, List.not_mem_nil, or_false] at hp
    rcases hp with rfl | rfl
    · exact news_ne N1 (o' := tabObj #[]) (by k_mem) (by k_mem) (by intro e; cases e)
    · exact news_ne N1 (o' := tabObj #[]) (by k_mem) (by k_mem) (by intro e; cases e)
  have N2 : News _ _ _ [((126 : Addr), tabObj #[]), (af5, lst us5 n25), (am5, lst vs5 n15)] := cb_drop N1 (by intro p hp; simp only [List.mem_cons, List.not_mem_nil, or_false] at hp ⊢; grind)
  clear N1
  k_dflt (refine (sv_con _ _ _ ⟨_, .inl rfl, rfl⟩ h126 am5 af5 n15 n25 vs5 us5 _ _ (.tail _ (.head _)) (.head _) hvs5 hus5 (mods_len _) (flds_len _) mods_or flds_or).use F1 N2 (by with_unfolding_all rfl) (by decide) (by decide) (by assumption) (by assumption) (by assumption) (by rfl) (by first | assumption | omega | (dsimp only at *; omega)) ?_)
  clear F1 N2
  rintro v' news' h' tk' ⟨tp6, sv6, t6, k6, ys6, pl, o6, rfl, rfl, hTo6, hrows⟩ F' N'
  simp only [List.cons_append, List.nil_append] at N'
  k_steps
  refine stop_out ?_
  (rename Fr _ _ _ _ => F1); (rename News _ _ _ _ => N1)
  k_dflt (refine (new_con _ am5 af5 n15 n25 vs5 us5 _ _ _ (by k_mem) (by k_mem) hvs5 hus5 (mods_nodup _) (mods_len _) (flds_len _) flds_or).use F1 N1 (by with_unfolding_all rfl) (by decide) (by decide) (by assumption) (by assumption) (by assumption) (by rfl) ?_)
  clear F1 N1
  rintro v' news' h' tk' ⟨kx, kdx, ksm, kdl, kig, ka, kb, kc, kt, koig, kso, kds, rfl, rfl, hkd, hkM, hkds, hkoff, hklo⟩ F' N'
  k_steps
  refine stop_out ?_
  (rename Fr _ _ _ _ => F1); (rename News _ _ _ _ => N1)
  k_dflt (refine newDict_K F1 N1 (TopRead.nolimit (by k_asm)) ?_)
  clear F1 N1
  intro td h' otd0 F' N' hlt5 tlo hotd _ _ _
  k_lt hlt5
  k_steps
  refine stop_out ?_
  refine for_at ?_ (by intro _; with_unfolding_all rfl)
  k_steps
  (rename Fr _ _ _ _ => F1); (rename News _ _ _ _ => N1)
  obtain ⟨s0, s1, k0, k1, vs0, vs1, rfl, hs0, hs1, hp0, hp1⟩ := rows_two hrows
  have hkc := isDict_cls hkd
  have hoc := isDict_cls hotd
  have hkt : td ≠ kig := Nat.ne_of_gt hlt5.1
  have hRin : ∀ p ∈ lawR ww cl5 am5 af5 sv6 s0 s1 kx kdx ksm kdl kig tv5 kds n5 k6 n15 n25 vs5 us5 kso o6 ka kb kc (tupsOf tps ++ pl), p = (cl5, lst tv5 n5) ∨ (p ∈ tps ∧ p.2.cls = .type "tuple") ∨ p ∈ (kdl, lst kds kds.length) :: (ksm, kso) :: (kx, instObj 103 kdx) :: (kdx, dxObj ww ka kb kc ksm kdl kig) :: (tp6, tupO [Value.ref sv6, Value.str (Str.ofString "many") t6]) :: (sv6, lst [.ref s0, .ref s1] k6) :: (126, o6) :: (af5, lst us5 n25) :: (am5, lst vs5 n15) :: pl := by
    intro p hp
    have hq := @tupsOf_sub tps p
    simp only [lawR, List.mem_cons, List.mem_append] at hp ⊢
    grind
  have hRk : ∀ p ∈ lawR ww cl5 am5 af5 sv6 s0 s1 kx kdx ksm kdl kig tv5 kds n5 k6 n15 n25 vs5 us5 kso o6 ka kb kc (tupsOf tps ++ pl), p.1 ≠ kig := by
    intro p hp
    rcases hRin p hp with rfl | ⟨h1, h2⟩ | h
    · exact news_ne N1 (o' := koig) (.head _) (by simp only [List.mem_cons, List.mem_append]; grind) (by rw [hkc]; show Value.type "list" ≠ Value.type "dict"; decide)
    · exact news_ne N1 (o := p.2) (o' := koig) (by simp only [List.mem_cons, List.mem_append]; exact .inr (.inl h1)) (by simp only [List.mem_cons, List.mem_append]; grind) (by rw [hkc, h2]; decide)
    · exact hkoff p h
  have hRt : ∀ p ∈ lawR ww cl5 am5 af5 sv6 s0 s1 kx kdx ksm kdl kig tv5 kds n5 k6 n15 n25 vs5 us5 kso o6 ka kb kc (tupsOf tps ++ pl), p.1 ≠ td := by
    intro p hp
    rcases hRin p hp with rfl | ⟨h1, h2⟩ | h
    · exact news_ne N1 (o' := otd0) (.head _) (by simp only [List.mem_cons, List.mem_append]; grind) (by rw [hoc]; show Value.type "list" ≠ Value.type "dict"; decide)
    · exact news_ne N1 (o := p.2) (o' := otd0) (by simp only [List.mem_cons, List.mem_append]; exact .inr (.inl h1)) (by simp only [List.mem_cons, List.mem_append]; grind) (by rw [hoc, h2]; decide)
    · exact Nat.ne_of_lt (allLt_mem ((kdl, lst kds kds.length) :: (ksm, kso) :: (kx, instObj 103 kdx) :: (kdx, dxObj ww ka kb kc ksm kdl kig) :: (tp6, tupO [Value.ref sv6, Value.str (Str.ofString "many") t6]) :: (sv6, lst [.ref s0, .ref s1] k6) :: (126, o6) :: (af5, lst us5 n25) :: (am5, lst vs5 n15) :: pl) hlt5.2 p h)
  have N4 : News _ _ _ ((kig, koig) :: (td, otd0) :: lawR ww cl5 am5 af5 sv6 s0 s1 kx kdx ksm kdl kig tv5 kds n5 k6 n15 n25 vs5 us5 kso o6 ka kb kc (tupsOf tps ++ pl)) := cb_drop N1 (by
    intro p hp
    rcases List.mem_cons.mp hp with rfl | hp
    · simp only [List.mem_cons, List.mem_append]; grind
    rcases List.mem_cons.mp hp with rfl | hp
    · simp only [List.mem_cons, List.mem_append]; grind
    · have hq := hRin p hp
      simp only [List.mem_cons, List.mem_append] at hq ⊢
      grind)
  have oRk := Off.mk hRk
  have oRt := Off.mk hRt
  clear hRk hRt hRin hkoff hlt5
  have hl0 : vs0.length ≤ 64 := by rw [hp0.len, row_len]; have := mods_len x5; omega
  have hl1 : vs1.length ≤ 64 := by rw [hp1.len, List.length_map, List.length_map]; have := flds_len x5; omega
  have hlen5 : (callsOf _).length ≤ 13 := hT5.len ▸ htl5
  have mDl : (kdl, lst kds kds.length) ∈ lawR ww cl5 am5 af5 sv6 s0 s1 kx kdx ksm kdl kig tv5 kds n5 k6 n15 n25 vs5 us5 kso o6 ka kb kc (tupsOf tps ++ pl) := .head _
  have mSm : (ksm, kso) ∈ lawR ww cl5 am5 af5 sv6 s0 s1 kx kdx ksm kdl kig tv5 kds n5 k6 n15 n25 vs5 us5 kso o6 ka kb kc (tupsOf tps ++ pl) := .tail _ (.head _)
  have mKx : (kx, instObj 103 kdx) ∈ lawR ww cl5 am5 af5 sv6 s0 s1 kx kdx ksm kdl kig tv5 kds n5 k6 n15 n25 vs5 us5 kso o6 ka kb kc (tupsOf tps ++ pl) := .tail _ (.tail _ (.head _))
  have mDx : (kdx, dxObj ww ka kb kc ksm kdl kig) ∈ lawR ww cl5 am5 af5 sv6 s0 s1 kx kdx ksm kdl kig tv5 kds n5 k6 n15 n25 vs5 us5 kso o6 ka kb kc (tupsOf tps ++ pl) := .tail _ (.tail _ (.tail _ (.head _)))
  have mC : (cl5, lst tv5 n5) ∈ lawR ww cl5 am5 af5 sv6 s0 s1 kx kdx ksm kdl kig tv5 kds n5 k6 n15 n25 vs5 us5 kso o6 ka kb kc (tupsOf tps ++ pl) := .tail _ (.tail _ (.tail _ (.tail _ (.head _))))
  have mS : (sv6, lst [.ref s0, .ref s1] k6) ∈ lawR ww cl5 am5 af5 sv6 s0 s1 kx kdx ksm kdl kig tv5 kds n5 k6 n15 n25 vs5 us5 kso o6 ka kb kc (tupsOf tps ++ pl) := .tail _ (.tail _ (.tail _ (.tail _ (.tail _ (.head _)))))
  have m126 : ((126 : Addr), o6) ∈ lawR ww cl5 am5 af5 sv6 s0 s1 kx kdx ksm kdl kig tv5 kds n5 k6 n15 n25 vs5 us5 kso o6 ka kb kc (tupsOf tps ++ pl) := .tail _ (.tail _ (.tail _ (.tail _ (.tail _ (.tail _ (.head _))))))
  have mF : (af5, lst us5 n25) ∈ lawR ww cl5 am5 af5 sv6 s0 s1 kx kdx ksm kdl kig tv5 kds n5 k6 n15 n25 vs5 us5 kso o6 ka kb kc (tupsOf tps ++ pl) := .tail _ (.tail _ (.tail _ (.tail _ (.tail _ (.tail _ (.tail _ (.head _)))))))
  have mA : (am5, lst vs5 n15) ∈ lawR ww cl5 am5 af5 sv6 s0 s1 kx kdx ksm kdl kig tv5 kds n5 k6 n15 n25 vs5 us5 kso o6 ka kb kc (tupsOf tps ++ pl) := .tail _ (.tail _ (.tail _ (.tail _ (.tail _ (.tail _ (.tail _ (.tail _ (.head _))))))))
  have mP : ∀ p ∈ pl, p ∈ lawR ww cl5 am5 af5 sv6 s0 s1 kx kdx ksm kdl kig tv5 kds n5 k6 n15 n25 vs5 us5 kso o6 ka kb kc (tupsOf tps ++ pl) := fun p hp => .tail _ (.tail _ (.tail _ (.tail _ (.tail _ (.tail _ (.tail _ (.tail _ (.tail _ (List.mem_append_right _ hp)))))))))
  have mT : ∀ p ∈ tupsOf tps, p ∈ lawR ww cl5 am5 af5 sv6 s0 s1 kx kdx ksm kdl kig tv5 kds n5 k6 n15 n25 vs5 us5 kso o6 ka kb kc (tupsOf tps ++ pl) := fun p hp => .tail _ (.tail _ (.tail _ (.tail _ (.tail _ (.tail _ (.tail _ (.tail _ (.tail _ (List.mem_append_left _ hp)))))))))
  have m0 := mP _ hs0
  have m1 := mP _ hs1
  generalize lawR ww cl5 am5 af5 sv6 s0 s1 kx kdx ksm kdl kig tv5 kds n5 k6 n15 n25 vs5 us5 kso o6 ka kb kc (tupsOf tps ++ pl) = R at oRk oRt N4 mDl mSm mKx mDx mC mS m126 mF mA mP mT m0 m1
  with_unfolding_all refine' forAt_listT (D := fun _ => True) (lo := lst tv5 n5) (vs := tv5) (n := n5) (ax := cl5) (J := LawJ ww am5 af5 sv6 t6 kx td kig R (tupsOf tps)) ?hD ?hh ?hE F1 N4 ?hc ?hd ?hm ?h0 ?hv ?turn ?done
  case hD => trivial
  case hh => rfl
  case hE => passes_own
  case hc => rfl
  case hd => rfl
  case hm =>
    rintro r m nw ⟨oig, otd, kvk, kvt, fk, ft, u, dn, rest, rfl, rfl, _⟩
    exact .tail _ (.tail _ mC)
  case h0 => exact ⟨koig, otd0, _, _, _, _, _, 0, _, lawM_of rfl rfl rfl rfl rfl rfl, rfl, hkd, drel_one, hotd, drel_nil, Nat.le_refl _, Nat.le_refl _, by rw [Nat.zero_add]; exact hlen5, link_start, hT5.tups⟩
  case hv => exact hT5.refs
  case turn =>
    clear F1 N1 N4
    rintro v r m nw it I h tk d ⟨oig, otd, kvk, kvt, fk, ft, u, dn, rest, rfl, rfl, hik, hfk, hit, hft, hlk, hlt, hln, hlink, hT⟩ htk - hoff hic F2 N2
    have oI := Off.mk hoff
    clear hoff
    cases hT with
    | cons T x t1 t2 t3 vs' xs hTm hT' =>
    have N3 := news_add (news_add (news_add N2 (.tail _ (.tail _ (.tail _ mDx)))) (.tail _ (.tail _ (.tail _ (.tail _ mKx))))) (a := T) (o := tup3 (.str (modAt x) t1) (.str (namAt x) t2) (.int (modeAt x) t3)) (.tail _ (.tail _ (.tail _ (.tail _ (.tail _ (mT _ hTm))))))
    clear N2
    have hmo := modAt_in x
    have hmoS := mod_small x
    have hnm := namAt_in x
    have hnmS := nam_small x
    have hmd := modeAt_nat x
    have hisF := isF_mode x
    generalize modAt x = mo at *
    generalize namAt x = nm at *
    generalize modeAt x = md at *
    obtain ⟨mdn, rfl, hmdl⟩ := hmd
    have F3 : Fr _ _ h (lawM am5 af5 sv6 t6 kx td u) := F2
    clear F2
    cases hb : isF ((mdn : Nat) : Int) with
    | true =>
      rw [hb] at hisF
      have hdv : (((mdn : Nat) : Int).fdiv 4096 == 8) = true := hisF.symm
      have hfr : ¬ mo = Str.ofString "<string>" → freshF (modsF x5) ((fldsF x5).map dirF) (some nm) mo = plainF (modsF x5) (fldsF x5) mo (some nm) := fun c => fresh_plain mods_in flds_in hmo hnm c
      have hpat : patF ((rowF (modsF x5)).map partsF) (((fldsF x5).map foldP).map partsF) mo nm = plainF (modsF x5) (fldsF x5) mo (some nm) := pat_plain mods_in flds_in hmo hnm
      have hps : mo = Str.ofString "<string>" → plainF (modsF x5) (fldsF x5) mo (some nm) = 1 := fun c => by rw [c]; exact plain_string _ _ _
      k_steps
      refine stop_out ?_
      (rename News _ _ _ _ => N5)
      k_dflt (refine ne_bools N5 (by k_mem) (by k_mem) hdv.symm (hy3.trans hdv.symm) (by show (7 : Nat) + 64 < 9900; decide) ?_)
      k_steps
      refine stop_out ?_
      (rename Fr _ _ _ _ => F6); (rename News _ _ _ _ => N6)
      have N7 : News _ _ _ ((kx, instObj 103 kdx) :: (kdx, dxObj ww ka kb kc ksm kdl kig) :: (I, it) :: (kig, oig) :: (td, otd) :: R) := cb_drop N6 (by intro p hp; simp only [List.mem_cons] at hp ⊢; grind)
      clear N6
      k_dflt (refine (new_con _ am5 af5 n15 n25 vs5 us5 _ _ _ (by k_mem) (by k_mem) hvs5 hus5 (mods_nodup _) (mods_len _) (flds_len _) flds_or).use F6 N7 (by with_unfolding_all rfl) (by decide) (by decide) (by assumption) (by assumption) (by assumption) (by rfl) ?_)
      clear F6 N7
      rintro v' news' h' tk' ⟨fx, fdx, fsm, fdl, fig, fka, fkb, fkc, fkt, foig, fso, fds, rfl, rfl, hfd, hfM, hfds, hfoff, hflo⟩ F' N'
      have oF := Off.mk hfoff
      clear hfoff
      k_steps
      refine stop_out ?_
      (rename Fr _ _ _ _ => F6); (rename News _ _ _ _ => N6)
      k_dflt (refine (names_conS ww fx fdx fsm fdl fig fka fkb fkc foig fso _ _ (modsF x5) ((fldsF x5).map dirF) fds fds.length _ mo _ nm _ hnmS oF.get hflo hfd drel_one (by show 1 ≤ 64; decide) hfM hfds mods_small dirs_small hmoS).use F6 N6 (by with_unfolding_all rfl) (by decide) (by decide) (by assumption) (by assumption) (by assumption) (by rfl) ?_)
      clear F6 N6
      rintro v' news' h' tk' d9 ⟨r9, tr9, kvs9, oig9, f9, rfl, rfl, _, _, _, hr9⟩ F' N'
      have er9 := fresh_r hr9 hfr hps
      subst er9
      have N6 : News _ _ _ ((kx, instObj 103 kdx) :: (kdx, dxObj ww ka kb kc ksm kdl kig) :: (I, it) :: (kig, oig) :: (td, otd) :: R) := cb_drop N' (by intro p hp; simp only [List.mem_cons] at hp ⊢; grind)
      clear N' hr9
      k_steps
      refine stop_out ?_
      (rename Fr _ _ _ _ => F7); (rename News _ _ _ _ => N7)
      k_dflt (refine (patterned_con ww sv6 s0 s1 k6 k0 k1 vs0 vs1 _ _ _ (Str.ofString "many") mo nm _ _ _ (by k_mem) (by k_mem) (by k_mem) (hp0.sub (fun p hp => .tail _ (.tail _ (.tail _ (.tail _ (.tail _ (mP p hp))))))) (hp1.sub (fun p hp => .tail _ (.tail _ (.tail _ (.tail _ (.tail _ (mP p hp))))))) (row_ok mods_or) (fold_ok flds_or) hl0 hl1 (by decide +kernel) hmoS hnmS).use F7 N7 (by with_unfolding_all rfl) (by decide) (by decide) (by assumption) (by assumption) (by assumption) (by rfl) ?_)
      clear F7 N7
      rintro v' news' h' tk' ⟨rfl, tq9, rfl⟩ F' N'
      k_steps
      refine stop_out ?_
      (rename News _ _ _ _ => N8)
      k_dflt (refine ne_ints2 N8 (by k_mem) (by k_mem) rfl hpat (by show (7 : Nat) + 64 < 9900; decide) ?_)
      k_steps
      refine stop_out ?_
      (rename Fr _ _ _ _ => F7); (rename News _ _ _ _ => N7)
      have N8 : News _ _ _ ((kig, oig) :: (kdl, lst kds kds.length) :: (ksm, kso) :: (kx, instObj 103 kdx) :: (kdx, dxObj ww ka kb kc ksm kdl kig) :: (I, it) :: (td, otd) :: R) := cb_drop N7 (by
        intro p hp
        have q1 := mDl
        have q2 := mSm
        simp only [List.mem_cons] at hp ⊢; grind)
      have hoK : ∀ p ∈ (kdl, lst kds kds.length) :: (ksm, kso) :: (kx, instObj 103 kdx) :: (kdx, dxObj ww ka kb kc ksm kdl kig) :: (I, it) :: (td, otd) :: R, p.1 ≠ kig := by
        intro p hp
        rcases List.mem_cons.mp hp with rfl | hp
        · exact oRk.get _ mDl
        rcases List.mem_cons.mp hp with rfl | hp
        · exact oRk.get _ mSm
        rcases List.mem_cons.mp hp with rfl | hp
        · exact oRk.get _ mKx
        rcases List.mem_cons.mp hp with rfl | hp
        · exact oRk.get _ mDx
        rcases List.mem_cons.mp hp with rfl | hp
        · exact Ne.symm (oI.get _ (.head _))
        rcases List.mem_cons.mp hp with rfl | hp
        · exact hkt
        · exact oRk.get _ hp
      rw [List.length_cons] at hln
      k_dflt (refine (names_conS ww kx kdx ksm kdl kig ka kb kc oig kso kvk fk (modsF x5) ((fldsF x5).map dirF) kds kds.length _ mo _ nm _ hnmS hoK hklo hik hfk (by omega) hkM hkds mods_small dirs_small hmoS).use F7 N8 (by with_unfolding_all rfl) (by decide) (by decide) (by assumption) (by assumption) (by assumption) (by rfl) ?_)
      clear F7 N7 N8 hoK
      rintro v' news' h' tk' d9 ⟨rk, trk, kvk', oig', fk', rfl, rfl, hik', hfk', hlk', hrk⟩ F' N'
      k_steps
      refine stop_out ?_
      (rename Fr _ _ _ _ => F8); (rename News _ _ _ _ => N8)
      have N9 : News _ _ _ ((td, otd) :: (kig, oig') :: (I, it) :: R) := cb_drop N8 (by intro p hp; simp only [List.mem_cons] at hp ⊢; grind)
      have hoT : ∀ p ∈ (kig, oig') :: (I, it) :: R, p.1 ≠ td := by
        intro p hp
        rcases List.mem_cons.mp hp with rfl | hp
        · exact Ne.symm hkt
        rcases List.mem_cons.mp hp with rfl | hp
        · exact Ne.symm (oI.get (td, otd) (.tail _ (.head _)))
        · exact oRt.get _ hp
      have oIz : ∀ o1 o2, Off ((kig, o1) :: (td, o2) :: R) I := fun o1 o2 => Off.mk (by
        intro p hp
        rcases List.mem_cons.mp hp with rfl | hp
        · exact oI.get (kig, oig) (.head _)
        rcases List.mem_cons.mp hp with rfl | hp
        · exact oI.get (td, otd) (.tail _ (.head _))
        · exact oI.get _ (.tail _ (.tail _ hp)))
      clear N8
      have hsz : kvt.length ≤ sizeLine := by rw [sizeLine_eq]; omega
      rcases hft0 : ft mo with _ | q
      · have hva := (hft mo).1 hft0
        obtain ⟨hlink', hrr⟩ := turn_link hlink hrk (.inr ⟨hft0, rfl⟩) hfr hps
        rw [hft0] at hrr
        have hlt' : ∀ v, (stored kvt mo v).length ≤ dn + 1 := fun v => by rw [stored_absent hva, List.length_append]; exact Nat.succ_le_succ hlt
        k_dflt (refine kob_setdef_new (knd := PySem.strKind P ww) F8 N9 (.head hoT) hit tlo (strKind_is _ _ _ _) (PySem.F.args_dict_setdefault_3 _ _ _) hva hsz ?_)
        clear F8 N9 hoT
        intro h9 otd' F9 N9 hit'
        k_steps
        refine stop_out ?_
        refine ne_same hrr.symm ?_
        k_steps
        (rename Fr _ _ _ _ => Fz); (rename News _ _ _ _ => Nz)
        exact ⟨_, _, _, _, (kig, oig') :: (td, otd') :: R, rfl, trivial, Fz, cb_drop Nz (by intro p hp; simp only [List.mem_cons] at hp ⊢; grind), (oIz _ _).get, ⟨oig', otd', kvk', _, fk', _, _, dn + 1, _, lawM_of rfl rfl rfl rfl rfl rfl, rfl, hik', hfk', hit', drel_set hft hft0, by omega, hlt' _, by omega, hlink', hT'⟩⟩
      · obtain ⟨tq, hva⟩ := (hft mo).2 q hft0
        obtain ⟨hlink', hrr⟩ := turn_link hlink hrk (.inl ⟨by rw [hft0]; rfl, rfl⟩) hfr hps
        rw [hft0] at hrr
        k_dflt (refine kob_setdef_there (knd := PySem.strKind P ww) N9 (.head _) hit tlo (strKind_is _ _ _ _) (PySem.F.args_dict_setdefault_3 _ _ _) hva hsz ?_)
        k_steps
        refine stop_out ?_
        refine ne_same hrr.symm ?_
        k_steps
        (rename Fr _ _ _ _ => Fz); (rename News _ _ _ _ => Nz)
        exact ⟨_, _, _, _, (kig, oig') :: (td, otd) :: R, rfl, trivial, Fz, cb_drop Nz (by intro p hp; simp only [List.mem_cons] at hp ⊢; grind), (oIz _ _).get, ⟨oig', otd, kvk', kvt, fk', ft, _, dn + 1, _, lawM_of rfl rfl rfl rfl rfl rfl, rfl, hik', hfk', hit, hft, by omega, Nat.le_succ_of_le hlt, by omega, hlink', hT'⟩⟩
    | false =>
      rw [hb] at hisF
      have hdv : (((mdn : Nat) : Int).fdiv 4096 == 8) = false := hisF.symm
      have hfr : ¬ mo = Str.ofString "<string>" → freshF (modsF x5) ((fldsF x5).map dirF) none mo = plainF (modsF x5) (fldsF x5) mo none := fun _ => by rw [fresh_none, plain_none]
      have hpat : (1 : Int) = plainF (modsF x5) (fldsF x5) mo none := (plain_none _ _ _).symm
      have hps : mo = Str.ofString "<string>" → plainF (modsF x5) (fldsF x5) mo none = 1 := fun _ => plain_none _ _ _
      k_steps
      refine stop_out ?_
      (rename News _ _ _ _ => N5)
      k_dflt (refine ne_bools N5 (by k_mem) (by k_mem) hdv.symm (hy3.trans hdv.symm) (by show (7 : Nat) + 64 < 9900; decide) ?_)
      k_steps
      refine stop_out ?_
      (rename Fr _ _ _ _ => F6); (rename News _ _ _ _ => N6)
      have N7 : News _ _ _ ((kx, instObj 103 kdx) :: (kdx, dxObj ww ka kb kc ksm kdl kig) :: (I, it) :: (kig, oig) :: (td, otd) :: R) := cb_drop N6 (by intro p hp; simp only [List.mem_cons] at hp ⊢; grind)
      clear N6
      k_dflt (refine (new_con _ am5 af5 n15 n25 vs5 us5 _ _ _ (by k_mem) (by k_mem) hvs5 hus5 (mods_nodup _) (mods_len _) (flds_len _) flds_or).use F6 N7 (by with_unfolding_all rfl) (by decide) (by decide) (by assumption) (by assumption) (by assumption) (by rfl) ?_)
      clear F6 N7
      rintro v' news' h' tk' ⟨fx, fdx, fsm, fdl, fig, fka, fkb, fkc, fkt, foig, fso, fds, rfl, rfl, hfd, hfM, hfds, hfoff, hflo⟩ F' N'
      have oF := Off.mk hfoff
      clear hfoff
      k_steps
      refine stop_out ?_
      (rename Fr _ _ _ _ => F6); (rename News _ _ _ _ => N6)
      k_dflt (refine (names_conN ww fx fdx fsm fdl fig fka fkb fkc foig fso _ _ (modsF x5) ((fldsF x5).map dirF) fds fds.length _ mo _ oF.get hflo hfd drel_one (by show 1 ≤ 64; decide) hfM hfds mods_small dirs_small hmoS).use F6 N6 (by with_unfolding_all rfl) (by decide) (by decide) (by assumption) (by assumption) (by assumption) (by rfl) ?_)
      clear F6 N6
      rintro v' news' h' tk' d9 ⟨r9, tr9, kvs9, oig9, f9, rfl, rfl, _, _, _, hr9⟩ F' N'
      have er9 := fresh_r hr9 hfr hps
      subst er9
      have N6 : News _ _ _ ((kx, instObj 103 kdx) :: (kdx, dxObj ww ka kb kc ksm kdl kig) :: (I, it) :: (kig, oig) :: (td, otd) :: R) := cb_drop N' (by intro p hp; simp only [List.mem_cons] at hp ⊢; grind)
      clear N' hr9
      k_steps
      refine stop_out ?_
      (rename Fr _ _ _ _ => F7); (rename News _ _ _ _ => N7)
      k_dflt (refine (patterned_con0 ww sv6 _ (Str.ofString "many") mo _ _).use F7 N7 (by with_unfolding_all rfl) (by decide) (by decide) (by assumption) (by assumption) (by assumption) (by rfl) ?_)
      clear F7 N7
      rintro v' news' h' tk' ⟨rfl, tq9, rfl⟩ F' N'
      k_steps
      refine stop_out ?_
      (rename News _ _ _ _ => N8)
      k_dflt (refine ne_ints2 N8 (by k_mem) (by k_mem) rfl hpat (by show (7 : Nat) + 64 < 9900; decide) ?_)
      k_steps
      refine stop_out ?_
      (rename Fr _ _ _ _ => F7); (rename News _ _ _ _ => N7)
      have N8 : News _ _ _ ((kig, oig) :: (kdl, lst kds kds.length) :: (ksm, kso) :: (kx, instObj 103 kdx) :: (kdx, dxObj ww ka kb kc ksm kdl kig) :: (I, it) :: (td, otd) :: R) := cb_drop N7 (by
        intro p hp
        have q1 := mDl
        have q2 := mSm
        simp only [List.mem_cons] at hp ⊢; grind)
      have hoK : ∀ p ∈ (kdl, lst kds kds.length) :: (ksm, kso) :: (kx, instObj 103 kdx) :: (kdx, dxObj ww ka kb kc ksm kdl kig) :: (I, it) :: (td, otd) :: R, p.1 ≠ kig := by
        intro p hp
        rcases List.mem_cons.mp hp with rfl | hp
        · exact oRk.get _ mDl
        rcases List.mem_cons.mp hp with rfl | hp
        · exact oRk.get _ mSm
        rcases List.mem_cons.mp hp with rfl | hp
        · exact oRk.get _ mKx
        rcases List.mem_cons.mp hp with rfl | hp
        · exact oRk.get _ mDx
        rcases List.mem_cons.mp hp with rfl | hp
        · exact Ne.symm (oI.get _ (.head _))
        rcases List.mem_cons.mp hp with rfl | hp
        · exact hkt
        · exact oRk.get _ hp
      rw [List.length_cons] at hln
      k_dflt (refine (names_conN ww kx kdx ksm kdl kig ka kb kc oig kso kvk fk (modsF x5) ((fldsF x5).map dirF) kds kds.length _ mo _ hoK hklo hik hfk (by omega) hkM hkds mods_small dirs_small hmoS).use F7 N8 (by with_unfolding_all rfl) (by decide) (by decide) (by assumption) (by assumption) (by assumption) (by rfl) ?_)
      clear F7 N7 N8 hoK
      rintro v' news' h' tk' d9 ⟨rk, trk, kvk', oig', fk', rfl, rfl, hik', hfk', hlk', hrk⟩ F' N'
      k_steps
      refine stop_out ?_
      (rename Fr _ _ _ _ => F8); (rename News _ _ _ _ => N8)
      have N9 : News _ _ _ ((td, otd) :: (kig, oig') :: (I, it) :: R) := cb_drop N8 (by intro p hp; simp only [List.mem_cons] at hp ⊢; grind)
      have hoT : ∀ p ∈ (kig, oig') :: (I, it) :: R, p.1 ≠ td := by
        intro p hp
        rcases List.mem_cons.mp hp with rfl | hp
        · exact Ne.symm hkt
        rcases List.mem_cons.mp hp with rfl | hp
        · exact Ne.symm (oI.get (td, otd) (.tail _ (.head _)))
        · exact oRt.get _ hp
      have oIz : ∀ o1 o2, Off ((kig, o1) :: (td, o2) :: R) I := fun o1 o2 => Off.mk (by
        intro p hp
        rcases List.mem_cons.mp hp with rfl | hp
        · exact oI.get (kig, oig) (.head _)
        rcases List.mem_cons.mp hp with rfl | hp
        · exact oI.get (td, otd) (.tail _ (.head _))
        · exact oI.get _ (.tail _ (.tail _ hp)))
      clear N8
      have hsz : kvt.length ≤ sizeLine := by rw [sizeLine_eq]; omega
      rcases hft0 : ft mo with _ | q
      · have hva := (hft mo).1 hft0
        obtain ⟨hlink', hrr⟩ := turn_link hlink hrk (.inr ⟨hft0, rfl⟩) hfr hps
        rw [hft0] at hrr
        have hlt' : ∀ v, (stored kvt mo v).length ≤ dn + 1 := fun v => by rw [stored_absent hva, List.length_append]; exact Nat.succ_le_succ hlt
        k_dflt (refine kob_setdef_new (knd := PySem.strKind P ww) F8 N9 (.head hoT) hit tlo (strKind_is _ _ _ _) (PySem.F.args_dict_setdefault_3 _ _ _) hva hsz ?_)
        clear F8 N9 hoT
        intro h9 otd' F9 N9 hit'
        k_steps
        refine stop_out ?_
        refine ne_same hrr.symm ?_
        k_steps
        (rename Fr _ _ _ _ => Fz); (rename News _ _ _ _ => Nz)
        exact ⟨_, _, _, _, (kig, oig') :: (td, otd') :: R, rfl, trivial, Fz, cb_drop Nz (by intro p hp; simp only [List.mem_cons] at hp ⊢; grind), (oIz _ _).get, ⟨oig', otd', kvk', _, fk', _, _, dn + 1, _, lawM_of rfl rfl rfl rfl rfl rfl, rfl, hik', hfk', hit', drel_set hft hft0, by omega, hlt' _, by omega, hlink', hT'⟩⟩
      · obtain ⟨tq, hva⟩ := (hft mo).2 q hft0
        obtain ⟨hlink', hrr⟩ := turn_link hlink hrk (.inl ⟨by rw [hft0]; rfl, rfl⟩) hfr hps
        rw [hft0] at hrr
        k_dflt (refine kob_setdef_there (knd := PySem.strKind P ww) N9 (.head _) hit tlo (strKind_is _ _ _ _) (PySem.F.args_dict_setdefault_3 _ _ _) hva hsz ?_)
        k_steps
        refine stop_out ?_
        refine ne_same hrr.symm ?_
        k_steps
        (rename Fr _ _ _ _ => Fz); (rename News _ _ _ _ => Nz)
        exact ⟨_, _, _, _, (kig, oig') :: (td, otd) :: R, rfl, trivial, Fz, cb_drop Nz (by intro p hp; simp only [List.mem_cons] at hp ⊢; grind), (oIz _ _).get, ⟨oig', otd, kvk', kvt, fk', ft, _, dn + 1, _, lawM_of rfl rfl rfl rfl rfl rfl, rfl, hik', hfk', hit, hft, by omega, Nat.le_succ_of_le hlt, by omega, hlink', hT'⟩⟩
  case done =>
    clear F1 N1 N4
    rintro m nw h tk d ⟨oig, otd, kvk, kvt, fk, ft, u, dn, rest, rfl, rfl, hik, hfk, hit, hft, hlk, hlt, hln, hlink, hT⟩ htk - F2 N2
    cases hT
    have F3 : Fr _ _ h (lawM am5 af5 sv6 t6 kx td u) := F2
    clear F2
    have N3 := news_add N2 (.tail _ (.tail _ m126))
    dsimp only
    have hgr : GrownAll [(130, 126)] h := by
      have g := (N3 _ (.head _)).1
      rcases hTo6 with e | ⟨c', e⟩
      · exact ⟨⟨_, by rw [g, e]⟩, trivial⟩
      · exact ⟨⟨_, by rw [g, e]⟩, trivial⟩
    k_steps
    refine stop_out ?_
    exact hgr
end
end Mine
theorem PySem.Challenge.cw_ik0038_01_holds : PySem.Challenge.rw_ik0038_01.Holds := by
  exact Mine.law_holds
